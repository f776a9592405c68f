import JvmDerived
import JvmDerived.Pilot.@@N@@Statement
import JvmDerived.Pilot.@@N@@Code
set_option linter.unusedVariables false
set_option linter.unusedSimpArgs false
@@BLOCK:NumsL.lean.txt@@
namespace Jvm.Own
open Sem ClassFile Op Lib Jvm.Stand Jvm.Free Jvm.LawKit Jvm.RoadKit
/-- from the state A the run comes to an end that meets G -/
def Goes (tb : Tables) (e : Env) (below : List Frame) (G : Outcome → State → Prop) (A : State) : Prop := ∃ s₂ o, Steps tb e below A s₂ ∧ s₂.status = .running ∧ Ended s₂ below o ∧ G o s₂
/-- what a body's walk may lean on throughout -/
def Ctx (p : Program) (Z s : State) (m : MethodId) (meth : Method) (c : Code) (bs : ByteArray) (own : String) (maxL : Nat) (ret : Option FieldType) : Prop :=
  p.tables.exec = Jvm.exec ∧ Z.Warmed39 s.vm ∧ c.code = bs ∧ c.maxLocals = maxL ∧ s.vm.findClass own = some m.cls ∧ meth.sig.returnType = ret ∧ meth.locks = false
section Kit
variable {p : Program} {l : Launch} {e : Env} {R : Room} {s : State} {m : MethodId} {args : Array Value} {below : List Frame} {meth : Method} {c : Code} {T : State} {locs : List Loc} {cells slots : Nat} {Z : State} {a0 : Array Value} {h : Heap} {G : Outcome → State → Prop} {bs : ByteArray} {own : String} {maxL : Nat} {ret : Option FieldType}
theorem Goes.on {tb : Tables} {A B : State} (k : ∀ t, Steps tb e below B t → Steps tb e below A t) (h : Goes tb e below G B) : Goes tb e below G A := by
  obtain ⟨s2, o, h1, h2⟩ := h
  exact ⟨s2, o, k _ h1, h2⟩
theorem Goes.to {tb : Tables} {A B : State} (q : A = B) (h : Goes tb e below G B) : Goes tb e below G A := q ▸ h
theorem body_of {y : MethodName} {bytes : ByteArray} {ws : List Cond} {as' : Array Value} {h0 : Heap} {Q : Option Value → Heap → List Loc → Prop} (hplain : plainFor y = true)
    (H : ∀ p e s m below meth c s₁ G, Ctx p Z s m meth c bytes y.cls maxL ret → meth.name = y.name → s.methodNamed? y = some m → Stand p l e R s m as' below meth c s₁ [] 0 0 → s₁.heap = h0 →
      (∀ (v : Option Value) (L : List Loc) (T' : State), Q v T'.heap L → s.WarmedH T'.vm → s.sameButNew ({ T' with vm := s.vm } : State) L R.cells R.slots → G (.returned v) T') →
      Goes p.tables e below G (s₁.setTop (entryFrame m as' maxL))) :
    MetFree l y (head1 (Cond.code y bytes maxL ret :: ws) R) (fun a U => a = as' ∧ Z.Warmed39 U.vm ∧ U.heap = h0) (fun _ _ _ _ _ => True) (fun _ U o U' => ∃ v L, o = .returned v ∧ Q v U'.heap L ∧ FrameEnd U o U' L R.cells R.slots) := by
  refine MetFree.of_bodySF hplain hisR ?_
  intro p e s m args below meth c s₁ Bd hml0 hP hK
  obtain ⟨rfl, hZ, hh⟩ := hP
  exact H p e s m below meth c s₁ _ ⟨Bd.exec, hZ, Bd.bytes, hml0, findClass_of_methodNamed Bd.named, Bd.returns, BodyLoose.notSynchronized Bd⟩ (name_of_methodNamed Bd.named Bd.method).1 Bd.named (Stand.of_body Bd) (by rw [← hh, Bd.state]; rfl)
    (fun v L T' hQ hW hS => ⟨v, L, rfl, hQ, ⟨_, rfl⟩, hW, hS⟩)
abbrev jv (x : Int64) : Slot := .val (.long x)
abbrev nv : Slot := .val .null
abbrev uu : Slot := .unset
abbrev sd : Slot := .second
abbrev OwnMF (l : Launch) (Z : State) (y : MethodName) (bytes : ByteArray) (maxL : Nat) (ret : Option FieldType) (ws : List Cond) (R : Room) (as' : Array Value) (h0 : Heap) (Q : Option Value → Heap → List Loc → Prop) : Prop := MetFree l y (head1 (Cond.code y bytes maxL ret :: ws) R) (fun a U => a = as' ∧ Z.Warmed39 U.vm ∧ U.heap = h0) (fun _ _ _ _ _ => True) (fun _ U o U' => ∃ v L, o = .returned v ∧ Q v U'.heap L ∧ FrameEnd U o U' L R.cells R.slots)
abbrev OwnMFH (l : Launch) (Z : State) (EL : List (String × Nat)) (y : MethodName) (bytes : ByteArray) (maxL : Nat) (ret : Option FieldType) (ws : List Cond) (R : Room) (as' : Array Value) (h0 : Heap) (Q : Option Value → Heap → List Loc → Prop) : Prop := MetFree l y (head1 (Cond.code y bytes maxL ret :: ws) R) (fun a U => a = as' ∧ Z.Warmed39 U.vm ∧ U.heap = h0 ∧ CHv Z EL U.vm h0) (fun _ _ _ _ _ => True) (fun _ U o U' => ∃ v L, o = .returned v ∧ Q v U'.heap L ∧ CHr Z EL U.vm U.heap U'.vm U'.heap ∧ ReturnedEndW U o U' L R.cells R.slots)
theorem ret1 {pc : Nat} {ls : Array Slot} {v : Value} {rest : List Value} (h : Goes p.tables e below G (T.setTop (mkF m pc ls (v :: rest)))) : Goes p.tables e below G (T.setTop (mkF m pc ls ((some v).toList ++ rest))) := h
theorem ret0 {pc : Nat} {ls : Array Slot} {rest : List Value} (h : Goes p.tables e below G (T.setTop (mkF m pc ls rest))) : Goes p.tables e below G (T.setTop (mkF m pc ls ((none : Option Value).toList ++ rest))) := h
theorem g_iloadN (C : Ctx p Z s m meth c bs own maxL ret) (X : Stand p l e R s m args below meth c T locs cells slots) {pc : Nat} {ls : Array Slot} {st : List Value} {k : Fin 4} {v : Int32} (hd : decode bs pc = .ok (.iload_n k, 1)) (pc' : Nat) (hl : ls[k.val]? = some (.val (.int v))) (k : Goes p.tables e below G (T.setTop (mkF m pc' ls (.int v :: st)))) (hp : pc + 1 = pc' := by rfl) : Goes p.tables e below G (T.setTop (mkF m pc ls st)) := by
  subst hp
  exact Goes.on (fun _ k => XS.iloadN X.here C.1 rfl (hb C.2.2.1 hd) hl k) k
theorem g_iload (C : Ctx p Z s m meth c bs own maxL ret) (X : Stand p l e R s m args below meth c T locs cells slots) {pc : Nat} {ls : Array Slot} {st : List Value} {k : Nat} {v : Int32} (hd : decode bs pc = .ok (.iload k, 2)) (pc' : Nat) (hl : ls[k]? = some (.val (.int v))) (k : Goes p.tables e below G (T.setTop (mkF m pc' ls (.int v :: st)))) (hp : pc + 2 = pc' := by rfl) : Goes p.tables e below G (T.setTop (mkF m pc ls st)) := by
  subst hp
  exact Goes.on (fun _ k => XS.iload X.here C.1 rfl (hb C.2.2.1 hd) hl k) k
theorem g_istoreN (C : Ctx p Z s m meth c bs own maxL ret) (X : Stand p l e R s m args below meth c T locs cells slots) {pc : Nat} {ls ls' : Array Slot} {st : List Value} {k : Fin 4} {v w : Int32} (hd : decode bs pc = .ok (.istore_n k, 1)) (pc' : Nat) (hv : v = w) (hl : storeLocals ls k.val (.int w) = some ls') (k : Goes p.tables e below G (T.setTop (mkF m pc' ls' st))) (hp : pc + 1 = pc' := by rfl) : Goes p.tables e below G (T.setTop (mkF m pc ls (.int v :: st))) := by
  subst hp hv
  exact Goes.on (fun _ k => XS.istoreN X.here C.1 rfl (hb C.2.2.1 hd) rfl hl k) k
theorem g_istore (C : Ctx p Z s m meth c bs own maxL ret) (X : Stand p l e R s m args below meth c T locs cells slots) {pc : Nat} {ls ls' : Array Slot} {st : List Value} {k : Nat} {v w : Int32} (hd : decode bs pc = .ok (.istore k, 2)) (pc' : Nat) (hv : v = w) (hl : storeLocals ls k (.int w) = some ls') (k : Goes p.tables e below G (T.setTop (mkF m pc' ls' st))) (hp : pc + 2 = pc' := by rfl) : Goes p.tables e below G (T.setTop (mkF m pc ls (.int v :: st))) := by
  subst hp hv
  exact Goes.on (fun _ k => XS.istore X.here C.1 rfl (hb C.2.2.1 hd) rfl hl k) k
theorem g_lloadN (C : Ctx p Z s m meth c bs own maxL ret) (X : Stand p l e R s m args below meth c T locs cells slots) {pc : Nat} {ls : Array Slot} {st : List Value} {k : Fin 4} {v : Int64} (hd : decode bs pc = .ok (.lload_n k, 1)) (pc' : Nat) (hl : ls[k.val]? = some (.val (.long v))) (k : Goes p.tables e below G (T.setTop (mkF m pc' ls (.long v :: st)))) (hp : pc + 1 = pc' := by rfl) : Goes p.tables e below G (T.setTop (mkF m pc ls st)) := by
  subst hp
  exact Goes.on (fun _ k => XT.lloadN X.here C.1 rfl (hb C.2.2.1 hd) hl k) k
theorem g_lload (C : Ctx p Z s m meth c bs own maxL ret) (X : Stand p l e R s m args below meth c T locs cells slots) {pc : Nat} {ls : Array Slot} {st : List Value} {k : Nat} {v : Int64} (hd : decode bs pc = .ok (.lload k, 2)) (pc' : Nat) (hl : ls[k]? = some (.val (.long v))) (k : Goes p.tables e below G (T.setTop (mkF m pc' ls (.long v :: st)))) (hp : pc + 2 = pc' := by rfl) : Goes p.tables e below G (T.setTop (mkF m pc ls st)) := by
  subst hp
  exact Goes.on (fun _ k => XT.lload X.here C.1 rfl (hb C.2.2.1 hd) hl k) k
theorem g_lstore (C : Ctx p Z s m meth c bs own maxL ret) (X : Stand p l e R s m args below meth c T locs cells slots) {pc : Nat} {ls ls' : Array Slot} {st : List Value} {k : Nat} {v w : Int64} (hd : decode bs pc = .ok (.lstore k, 2)) (pc' : Nat) (hv : v = w) (hl : storeLocals ls k (.long w) = some ls') (k : Goes p.tables e below G (T.setTop (mkF m pc' ls' st))) (hp : pc + 2 = pc' := by rfl) : Goes p.tables e below G (T.setTop (mkF m pc ls (.long v :: st))) := by
  subst hp hv
  exact Goes.on (fun _ k => XT.lstore X.here C.1 rfl (hb C.2.2.1 hd) rfl hl k) k
theorem g_aloadN (C : Ctx p Z s m meth c bs own maxL ret) (X : Stand p l e R s m args below meth c T locs cells slots) {pc : Nat} {ls : Array Slot} {st : List Value} {k : Fin 4} {v : Value} (hd : decode bs pc = .ok (.aload_n k, 1)) (pc' : Nat) (hl : ls[k.val]? = some (.val v)) (hv : v.isRef = true) (k : Goes p.tables e below G (T.setTop (mkF m pc' ls (v :: st)))) (hp : pc + 1 = pc' := by rfl) : Goes p.tables e below G (T.setTop (mkF m pc ls st)) := by
  subst hp
  exact Goes.on (fun _ k => XS.aloadN X.here C.1 rfl (hb C.2.2.1 hd) hl hv k) k
theorem g_aload (C : Ctx p Z s m meth c bs own maxL ret) (X : Stand p l e R s m args below meth c T locs cells slots) {pc : Nat} {ls : Array Slot} {st : List Value} {k : Nat} {v : Value} (hd : decode bs pc = .ok (.aload k, 2)) (pc' : Nat) (hl : ls[k]? = some (.val v)) (hv : v.isRef = true) (k : Goes p.tables e below G (T.setTop (mkF m pc' ls (v :: st)))) (hp : pc + 2 = pc' := by rfl) : Goes p.tables e below G (T.setTop (mkF m pc ls st)) := by
  subst hp
  exact Goes.on (fun _ k => XS.aload X.here C.1 rfl (hb C.2.2.1 hd) hl hv k) k
theorem g_astoreN (C : Ctx p Z s m meth c bs own maxL ret) (X : Stand p l e R s m args below meth c T locs cells slots) {pc : Nat} {ls ls' : Array Slot} {st : List Value} {k : Fin 4} {v : Value} (hd : decode bs pc = .ok (.astore_n k, 1)) (pc' : Nat) (hv : v.isRef = true) (hl : storeLocals ls k.val v = some ls') (k : Goes p.tables e below G (T.setTop (mkF m pc' ls' st))) (hp : pc + 1 = pc' := by rfl) : Goes p.tables e below G (T.setTop (mkF m pc ls (v :: st))) := by
  subst hp
  exact Goes.on (fun _ k => XS.astoreN X.here C.1 rfl (hb C.2.2.1 hd) rfl hv hl k) k
theorem g_astore (C : Ctx p Z s m meth c bs own maxL ret) (X : Stand p l e R s m args below meth c T locs cells slots) {pc : Nat} {ls ls' : Array Slot} {st : List Value} {k : Nat} {v : Value} (hd : decode bs pc = .ok (.astore k, 2)) (pc' : Nat) (hv : v.isRef = true) (hl : storeLocals ls k v = some ls') (k : Goes p.tables e below G (T.setTop (mkF m pc' ls' st))) (hp : pc + 2 = pc' := by rfl) : Goes p.tables e below G (T.setTop (mkF m pc ls (v :: st))) := by
  subst hp
  exact Goes.on (fun _ k => XS.astore X.here C.1 rfl (hb C.2.2.1 hd) rfl hv hl k) k
theorem g_iconst (C : Ctx p Z s m meth c bs own maxL ret) (X : Stand p l e R s m args below meth c T locs cells slots) {pc : Nat} {ls : Array Slot} {st : List Value} {i : Int} {v : Int32} (hd : decode bs pc = .ok (.iconst i, 1)) (pc' : Nat) (hv : Int32.ofInt i = v) (k : Goes p.tables e below G (T.setTop (mkF m pc' ls (.int v :: st)))) (hp : pc + 1 = pc' := by rfl) : Goes p.tables e below G (T.setTop (mkF m pc ls st)) := by
  subst hp hv
  exact Goes.on (fun _ k => XS.iconst X.here C.1 rfl (hb C.2.2.1 hd) k) k
theorem g_bipush (C : Ctx p Z s m meth c bs own maxL ret) (X : Stand p l e R s m args below meth c T locs cells slots) {pc : Nat} {ls : Array Slot} {st : List Value} {i : Int} {v : Int32} (hd : decode bs pc = .ok (.bipush i, 2)) (pc' : Nat) (hv : (Int8.ofInt i).toInt32 = v) (k : Goes p.tables e below G (T.setTop (mkF m pc' ls (.int v :: st)))) (hp : pc + 2 = pc' := by rfl) : Goes p.tables e below G (T.setTop (mkF m pc ls st)) := by
  subst hp hv
  exact Goes.on (fun _ k => XS.bipush X.here C.1 rfl (hb C.2.2.1 hd) k) k
theorem g_sipush (C : Ctx p Z s m meth c bs own maxL ret) (X : Stand p l e R s m args below meth c T locs cells slots) {pc : Nat} {ls : Array Slot} {st : List Value} {i : Int} {v : Int32} (hd : decode bs pc = .ok (.sipush i, 3)) (pc' : Nat) (hv : (Int16.ofInt i).toInt32 = v) (k : Goes p.tables e below G (T.setTop (mkF m pc' ls (.int v :: st)))) (hp : pc + 3 = pc' := by rfl) : Goes p.tables e below G (T.setTop (mkF m pc ls st)) := by
  subst hp hv
  exact Goes.on (fun _ k => XS.sipush X.here C.1 rfl (hb C.2.2.1 hd) k) k
theorem g_lconst (C : Ctx p Z s m meth c bs own maxL ret) (X : Stand p l e R s m args below meth c T locs cells slots) {pc : Nat} {ls : Array Slot} {st : List Value} {i : Fin 2} {v : Int64} (hd : decode bs pc = .ok (.lconst i, 1)) (pc' : Nat) (hv : Int64.ofNat i = v) (k : Goes p.tables e below G (T.setTop (mkF m pc' ls (.long v :: st)))) (hp : pc + 1 = pc' := by rfl) : Goes p.tables e below G (T.setTop (mkF m pc ls st)) := by
  subst hp hv
  exact Goes.on (fun _ k => XT.lconst X.here C.1 rfl (hb C.2.2.1 hd) k) k
theorem g_aconstNull (C : Ctx p Z s m meth c bs own maxL ret) (X : Stand p l e R s m args below meth c T locs cells slots) {pc : Nat} {ls : Array Slot} {st : List Value} (hd : decode bs pc = .ok (.aconst_null, 1)) (pc' : Nat) (k : Goes p.tables e below G (T.setTop (mkF m pc' ls (.null :: st)))) (hp : pc + 1 = pc' := by rfl) : Goes p.tables e below G (T.setTop (mkF m pc ls st)) := by
  subst hp
  exact Goes.on (fun _ k => XS.aconstNull X.here C.1 rfl (hb C.2.2.1 hd) k) k
theorem g_iadd (C : Ctx p Z s m meth c bs own maxL ret) (X : Stand p l e R s m args below meth c T locs cells slots) {pc : Nat} {ls : Array Slot} {st : List Value} {x y : Int32} (hd : decode bs pc = .ok (.iadd, 1)) (pc' : Nat) (k : Goes p.tables e below G (T.setTop (mkF m pc' ls (.int (x + y) :: st)))) (hp : pc + 1 = pc' := by rfl) : Goes p.tables e below G (T.setTop (mkF m pc ls (.int y :: .int x :: st))) := by
  subst hp
  exact Goes.on (fun _ k => XS.iadd X.here C.1 rfl (hb C.2.2.1 hd) rfl k) k
theorem g_isub (C : Ctx p Z s m meth c bs own maxL ret) (X : Stand p l e R s m args below meth c T locs cells slots) {pc : Nat} {ls : Array Slot} {st : List Value} {x y : Int32} (hd : decode bs pc = .ok (.isub, 1)) (pc' : Nat) (k : Goes p.tables e below G (T.setTop (mkF m pc' ls (.int (x - y) :: st)))) (hp : pc + 1 = pc' := by rfl) : Goes p.tables e below G (T.setTop (mkF m pc ls (.int y :: .int x :: st))) := by
  subst hp
  exact Goes.on (fun _ k => XS.isub X.here C.1 rfl (hb C.2.2.1 hd) rfl k) k
theorem g_imul (C : Ctx p Z s m meth c bs own maxL ret) (X : Stand p l e R s m args below meth c T locs cells slots) {pc : Nat} {ls : Array Slot} {st : List Value} {x y : Int32} (hd : decode bs pc = .ok (.imul, 1)) (pc' : Nat) (k : Goes p.tables e below G (T.setTop (mkF m pc' ls (.int (x * y) :: st)))) (hp : pc + 1 = pc' := by rfl) : Goes p.tables e below G (T.setTop (mkF m pc ls (.int y :: .int x :: st))) := by
  subst hp
  exact Goes.on (fun _ k => XS.imul X.here C.1 rfl (hb C.2.2.1 hd) rfl k) k
theorem g_iand (C : Ctx p Z s m meth c bs own maxL ret) (X : Stand p l e R s m args below meth c T locs cells slots) {pc : Nat} {ls : Array Slot} {st : List Value} {x y : Int32} (hd : decode bs pc = .ok (.iand, 1)) (pc' : Nat) (k : Goes p.tables e below G (T.setTop (mkF m pc' ls (.int (x &&& y) :: st)))) (hp : pc + 1 = pc' := by rfl) : Goes p.tables e below G (T.setTop (mkF m pc ls (.int y :: .int x :: st))) := by
  subst hp
  exact Goes.on (fun _ k => XS.iand X.here C.1 rfl (hb C.2.2.1 hd) rfl k) k
theorem g_ishl (C : Ctx p Z s m meth c bs own maxL ret) (X : Stand p l e R s m args below meth c T locs cells slots) {pc : Nat} {ls : Array Slot} {st : List Value} {x y : Int32} (hd : decode bs pc = .ok (.ishl, 1)) (pc' : Nat) (k : Goes p.tables e below G (T.setTop (mkF m pc' ls (.int (x <<< (y &&& 31)) :: st)))) (hp : pc + 1 = pc' := by rfl) : Goes p.tables e below G (T.setTop (mkF m pc ls (.int y :: .int x :: st))) := by
  subst hp
  exact Goes.on (fun _ k => XT.ishl X.here C.1 rfl (hb C.2.2.1 hd) rfl k) k
theorem g_ishr (C : Ctx p Z s m meth c bs own maxL ret) (X : Stand p l e R s m args below meth c T locs cells slots) {pc : Nat} {ls : Array Slot} {st : List Value} {x y : Int32} (hd : decode bs pc = .ok (.ishr, 1)) (pc' : Nat) (k : Goes p.tables e below G (T.setTop (mkF m pc' ls (.int (x >>> (y &&& 31)) :: st)))) (hp : pc + 1 = pc' := by rfl) : Goes p.tables e below G (T.setTop (mkF m pc ls (.int y :: .int x :: st))) := by
  subst hp
  exact Goes.on (fun _ k => XT.ishr X.here C.1 rfl (hb C.2.2.1 hd) rfl k) k
theorem g_iushr (C : Ctx p Z s m meth c bs own maxL ret) (X : Stand p l e R s m args below meth c T locs cells slots) {pc : Nat} {ls : Array Slot} {st : List Value} {x y : Int32} (hd : decode bs pc = .ok (.iushr, 1)) (pc' : Nat) (k : Goes p.tables e below G (T.setTop (mkF m pc' ls (.int (XT.ushr x y) :: st)))) (hp : pc + 1 = pc' := by rfl) : Goes p.tables e below G (T.setTop (mkF m pc ls (.int y :: .int x :: st))) := by
  subst hp
  exact Goes.on (fun _ k => XT.iushr X.here C.1 rfl (hb C.2.2.1 hd) rfl k) k
theorem g_idiv (C : Ctx p Z s m meth c bs own maxL ret) (X : Stand p l e R s m args below meth c T locs cells slots) {pc : Nat} {ls : Array Slot} {st : List Value} {x y : Int32} (hd : decode bs pc = .ok (.idiv, 1)) (pc' : Nat) (hy : y ≠ 0) (k : Goes p.tables e below G (T.setTop (mkF m pc' ls (.int (x / y) :: st)))) (hp : pc + 1 = pc' := by rfl) : Goes p.tables e below G (T.setTop (mkF m pc ls (.int y :: .int x :: st))) := by
  subst hp
  exact Goes.on (fun _ k => XS.idiv X.here C.1 rfl (hb C.2.2.1 hd) rfl hy k) k
theorem g_ldiv (C : Ctx p Z s m meth c bs own maxL ret) (X : Stand p l e R s m args below meth c T locs cells slots) {pc : Nat} {ls : Array Slot} {st : List Value} {x y : Int64} (hd : decode bs pc = .ok (.ldiv, 1)) (pc' : Nat) (hy : y ≠ 0) (k : Goes p.tables e below G (T.setTop (mkF m pc' ls (.long (x / y) :: st)))) (hp : pc + 1 = pc' := by rfl) : Goes p.tables e below G (T.setTop (mkF m pc ls (.long y :: .long x :: st))) := by
  subst hp
  exact Goes.on (fun _ k => XT.ldiv X.here C.1 rfl (hb C.2.2.1 hd) rfl hy k) k
theorem g_irem (C : Ctx p Z s m meth c bs own maxL ret) (X : Stand p l e R s m args below meth c T locs cells slots) {pc : Nat} {ls : Array Slot} {st : List Value} {x y : Int32} (hd : decode bs pc = .ok (.irem, 1)) (pc' : Nat) (hy : y ≠ 0) (k : Goes p.tables e below G (T.setTop (mkF m pc' ls (.int (x % y) :: st)))) (hp : pc + 1 = pc' := by rfl) : Goes p.tables e below G (T.setTop (mkF m pc ls (.int y :: .int x :: st))) := by
  subst hp
  exact Goes.on (fun _ k => iremM X C.1 rfl (hb C.2.2.1 hd) rfl hy k) k
theorem g_lrem (C : Ctx p Z s m meth c bs own maxL ret) (X : Stand p l e R s m args below meth c T locs cells slots) {pc : Nat} {ls : Array Slot} {st : List Value} {x y : Int64} (hd : decode bs pc = .ok (.lrem, 1)) (pc' : Nat) (hy : y ≠ 0) (k : Goes p.tables e below G (T.setTop (mkF m pc' ls (.long (x - (x / y) * y) :: st)))) (hp : pc + 1 = pc' := by rfl) : Goes p.tables e below G (T.setTop (mkF m pc ls (.long y :: .long x :: st))) := by
  subst hp
  exact Goes.on (fun _ k => XT.lrem X.here C.1 rfl (hb C.2.2.1 hd) rfl hy k) k
theorem g_ineg (C : Ctx p Z s m meth c bs own maxL ret) (X : Stand p l e R s m args below meth c T locs cells slots) {pc : Nat} {ls : Array Slot} {st : List Value} {x : Int32} (hd : decode bs pc = .ok (.ineg, 1)) (pc' : Nat) (k : Goes p.tables e below G (T.setTop (mkF m pc' ls (.int (-x) :: st)))) (hp : pc + 1 = pc' := by rfl) : Goes p.tables e below G (T.setTop (mkF m pc ls (.int x :: st))) := by
  subst hp
  exact Goes.on (fun _ k => XS.ineg X.here C.1 rfl (hb C.2.2.1 hd) rfl k) k
theorem g_lneg (C : Ctx p Z s m meth c bs own maxL ret) (X : Stand p l e R s m args below meth c T locs cells slots) {pc : Nat} {ls : Array Slot} {st : List Value} {x : Int64} (hd : decode bs pc = .ok (.lneg, 1)) (pc' : Nat) (k : Goes p.tables e below G (T.setTop (mkF m pc' ls (.long (-x) :: st)))) (hp : pc + 1 = pc' := by rfl) : Goes p.tables e below G (T.setTop (mkF m pc ls (.long x :: st))) := by
  subst hp
  exact Goes.on (fun _ k => XT.lneg X.here C.1 rfl (hb C.2.2.1 hd) rfl k) k
theorem g_i2l (C : Ctx p Z s m meth c bs own maxL ret) (X : Stand p l e R s m args below meth c T locs cells slots) {pc : Nat} {ls : Array Slot} {st : List Value} {x : Int32} (hd : decode bs pc = .ok (.i2l, 1)) (pc' : Nat) (k : Goes p.tables e below G (T.setTop (mkF m pc' ls (.long x.toInt64 :: st)))) (hp : pc + 1 = pc' := by rfl) : Goes p.tables e below G (T.setTop (mkF m pc ls (.int x :: st))) := by
  subst hp
  exact Goes.on (fun _ k => XT.i2l X.here C.1 rfl (hb C.2.2.1 hd) rfl k) k
theorem g_l2i (C : Ctx p Z s m meth c bs own maxL ret) (X : Stand p l e R s m args below meth c T locs cells slots) {pc : Nat} {ls : Array Slot} {st : List Value} {x : Int64} (hd : decode bs pc = .ok (.l2i, 1)) (pc' : Nat) (k : Goes p.tables e below G (T.setTop (mkF m pc' ls (.int x.toInt32 :: st)))) (hp : pc + 1 = pc' := by rfl) : Goes p.tables e below G (T.setTop (mkF m pc ls (.long x :: st))) := by
  subst hp
  exact Goes.on (fun _ k => XT.l2i X.here C.1 rfl (hb C.2.2.1 hd) rfl k) k
theorem g_i2c (C : Ctx p Z s m meth c bs own maxL ret) (X : Stand p l e R s m args below meth c T locs cells slots) {pc : Nat} {ls : Array Slot} {st : List Value} {x : Int32} (hd : decode bs pc = .ok (.i2c, 1)) (pc' : Nat) (k : Goes p.tables e below G (T.setTop (mkF m pc' ls (.int x.toUInt32.toUInt16.toUInt32.toInt32 :: st)))) (hp : pc + 1 = pc' := by rfl) : Goes p.tables e below G (T.setTop (mkF m pc ls (.int x :: st))) := by
  subst hp
  exact Goes.on (fun _ k => XT.i2c X.here C.1 rfl (hb C.2.2.1 hd) rfl k) k
theorem g_i2b (C : Ctx p Z s m meth c bs own maxL ret) (X : Stand p l e R s m args below meth c T locs cells slots) {pc : Nat} {ls : Array Slot} {st : List Value} {x : Int32} (hd : decode bs pc = .ok (.i2b, 1)) (pc' : Nat) (k : Goes p.tables e below G (T.setTop (mkF m pc' ls (.int x.toInt8.toInt32 :: st)))) (hp : pc + 1 = pc' := by rfl) : Goes p.tables e below G (T.setTop (mkF m pc ls (.int x :: st))) := by
  subst hp
  exact Goes.on (fun _ k => XT.i2b X.here C.1 rfl (hb C.2.2.1 hd) rfl k) k
theorem g_dup (C : Ctx p Z s m meth c bs own maxL ret) (X : Stand p l e R s m args below meth c T locs cells slots) {pc : Nat} {ls : Array Slot} {st : List Value} {x : Value} (hd : decode bs pc = .ok (.dup, 1)) (pc' : Nat) (hc : x.category = 1) (k : Goes p.tables e below G (T.setTop (mkF m pc' ls (x :: x :: st)))) (hp : pc + 1 = pc' := by rfl) : Goes p.tables e below G (T.setTop (mkF m pc ls (x :: st))) := by
  subst hp
  exact Goes.on (fun _ k => XS.dup X.here C.1 rfl (hb C.2.2.1 hd) rfl hc k) k
theorem g_pop (C : Ctx p Z s m meth c bs own maxL ret) (X : Stand p l e R s m args below meth c T locs cells slots) {pc : Nat} {ls : Array Slot} {st : List Value} {x : Value} (hd : decode bs pc = .ok (.pop, 1)) (pc' : Nat) (hc : x.category = 1) (k : Goes p.tables e below G (T.setTop (mkF m pc' ls st))) (hp : pc + 1 = pc' := by rfl) : Goes p.tables e below G (T.setTop (mkF m pc ls (x :: st))) := by
  subst hp
  exact Goes.on (fun _ k => XT.pop X.here C.1 rfl (hb C.2.2.1 hd) rfl hc k) k
theorem g_iinc (C : Ctx p Z s m meth c bs own maxL ret) (X : Stand p l e R s m args below meth c T locs cells slots) {pc : Nat} {ls ls' : Array Slot} {st : List Value} {k : Nat} {cst : Int} {x w : Int32} (hd : decode bs pc = .ok (.iinc k cst, 3)) (pc' : Nat) (hl : ls[k]? = some (.val (.int x))) (hv : x + Int32.ofInt cst = w) (hl' : storeLocals ls k (.int w) = some ls') (k : Goes p.tables e below G (T.setTop (mkF m pc' ls' st))) (hp : pc + 3 = pc' := by rfl) : Goes p.tables e below G (T.setTop (mkF m pc ls st)) := by
  subst hp hv
  exact Goes.on (fun _ k => XS.iinc X.here C.1 rfl (hb C.2.2.1 hd) hl hl' k) k
theorem g_goto (C : Ctx p Z s m meth c bs own maxL ret) (X : Stand p l e R s m args below meth c T locs cells slots) {pc : Nat} {ls : Array Slot} {st : List Value} {o : Int} (hd : decode bs pc = .ok (.goto o, 3)) (pc' : Nat) (k : Goes p.tables e below G (T.setTop (mkF m pc' ls st))) (ho : 0 ≤ (pc : Int) + o := by decide) (hp : ((pc : Int) + o).toNat = pc' := by decide) : Goes p.tables e below G (T.setTop (mkF m pc ls st)) :=
  Goes.on (fun _ k => XS.goto X.here C.1 rfl (pc0 := pc) (pc' := pc') rfl (hb C.2.2.1 hd) ho hp k) k
theorem cmpL_lt (x y : Int64) : XT.cmpL x y < 0 ↔ x < y := by unfold XT.cmpL; split <;> (try split) <;> simp_all [Int64.lt_iff_toInt_lt, ← Int64.toInt_inj] <;> omega
theorem g_icmp_eq (C : Ctx p Z s m meth c bs own maxL ret) (X : Stand p l e R s m args below meth c T locs cells slots) {pc : Nat} {ls : Array Slot} {st : List Value} {x y : Int32} {o : Int} (hd : decode bs pc = .ok (.if_icmp .eq o, 3)) (pcT pcN : Nat) (hyes : x = y → Goes p.tables e below G (T.setTop (mkF m pcT ls st))) (hno : ¬ x = y → Goes p.tables e below G (T.setTop (mkF m pcN ls st))) (ho : 0 ≤ (pc : Int) + o := by decide) (hp : ((pc : Int) + o).toNat = pcT := by decide) (hq : pc + 3 = pcN := by rfl) : Goes p.tables e below G (T.setTop (mkF m pc ls (.int y :: .int x :: st))) := by
  subst hq
  by_cases q : x = y
  · exact Goes.on (fun _ k => XS.icmpYes X.here C.1 rfl (pc0 := pc) (pc' := pcT) rfl (hb C.2.2.1 hd) rfl (teq q).1 ho hp k) (hyes q)
  · exact Goes.on (fun _ k => XS.icmpNo X.here C.1 rfl (hb C.2.2.1 hd) rfl (feq q).1 k) (hno q)
theorem g_if_eq (C : Ctx p Z s m meth c bs own maxL ret) (X : Stand p l e R s m args below meth c T locs cells slots) {pc : Nat} {ls : Array Slot} {st : List Value} {x : Int32} {o : Int} (hd : decode bs pc = .ok (.ifCond .eq o, 3)) (pcT pcN : Nat) (hyes : x = (0 : Int32) → Goes p.tables e below G (T.setTop (mkF m pcT ls st))) (hno : ¬ x = (0 : Int32) → Goes p.tables e below G (T.setTop (mkF m pcN ls st))) (ho : 0 ≤ (pc : Int) + o := by decide) (hp : ((pc : Int) + o).toNat = pcT := by decide) (hq : pc + 3 = pcN := by rfl) : Goes p.tables e below G (T.setTop (mkF m pc ls (.int x :: st))) := by
  subst hq
  by_cases q : x = (0 : Int32)
  · exact Goes.on (fun _ k => XS.ifYes X.here C.1 rfl (pc0 := pc) (pc' := pcT) rfl (hb C.2.2.1 hd) rfl ((if0 _ _).trans (teq q).1) ho hp k) (hyes q)
  · exact Goes.on (fun _ k => XS.ifNo X.here C.1 rfl (hb C.2.2.1 hd) rfl ((if0 _ _).trans (feq q).1) k) (hno q)
theorem g_icmp_ne (C : Ctx p Z s m meth c bs own maxL ret) (X : Stand p l e R s m args below meth c T locs cells slots) {pc : Nat} {ls : Array Slot} {st : List Value} {x y : Int32} {o : Int} (hd : decode bs pc = .ok (.if_icmp .ne o, 3)) (pcT pcN : Nat) (hyes : ¬ x = y → Goes p.tables e below G (T.setTop (mkF m pcT ls st))) (hno : x = y → Goes p.tables e below G (T.setTop (mkF m pcN ls st))) (ho : 0 ≤ (pc : Int) + o := by decide) (hp : ((pc : Int) + o).toNat = pcT := by decide) (hq : pc + 3 = pcN := by rfl) : Goes p.tables e below G (T.setTop (mkF m pc ls (.int y :: .int x :: st))) := by
  subst hq
  by_cases q : x = y
  · exact Goes.on (fun _ k => XS.icmpNo X.here C.1 rfl (hb C.2.2.1 hd) rfl (teq q).2 k) (hno q)
  · exact Goes.on (fun _ k => XS.icmpYes X.here C.1 rfl (pc0 := pc) (pc' := pcT) rfl (hb C.2.2.1 hd) rfl (feq q).2 ho hp k) (hyes q)
theorem g_if_ne (C : Ctx p Z s m meth c bs own maxL ret) (X : Stand p l e R s m args below meth c T locs cells slots) {pc : Nat} {ls : Array Slot} {st : List Value} {x : Int32} {o : Int} (hd : decode bs pc = .ok (.ifCond .ne o, 3)) (pcT pcN : Nat) (hyes : ¬ x = (0 : Int32) → Goes p.tables e below G (T.setTop (mkF m pcT ls st))) (hno : x = (0 : Int32) → Goes p.tables e below G (T.setTop (mkF m pcN ls st))) (ho : 0 ≤ (pc : Int) + o := by decide) (hp : ((pc : Int) + o).toNat = pcT := by decide) (hq : pc + 3 = pcN := by rfl) : Goes p.tables e below G (T.setTop (mkF m pc ls (.int x :: st))) := by
  subst hq
  by_cases q : x = (0 : Int32)
  · exact Goes.on (fun _ k => XS.ifNo X.here C.1 rfl (hb C.2.2.1 hd) rfl ((if0 _ _).trans (teq q).2) k) (hno q)
  · exact Goes.on (fun _ k => XS.ifYes X.here C.1 rfl (pc0 := pc) (pc' := pcT) rfl (hb C.2.2.1 hd) rfl ((if0 _ _).trans (feq q).2) ho hp k) (hyes q)
theorem g_icmp_lt (C : Ctx p Z s m meth c bs own maxL ret) (X : Stand p l e R s m args below meth c T locs cells slots) {pc : Nat} {ls : Array Slot} {st : List Value} {x y : Int32} {o : Int} (hd : decode bs pc = .ok (.if_icmp .lt o, 3)) (pcT pcN : Nat) (hyes : x < y → Goes p.tables e below G (T.setTop (mkF m pcT ls st))) (hno : ¬ x < y → Goes p.tables e below G (T.setTop (mkF m pcN ls st))) (ho : 0 ≤ (pc : Int) + o := by decide) (hp : ((pc : Int) + o).toNat = pcT := by decide) (hq : pc + 3 = pcN := by rfl) : Goes p.tables e below G (T.setTop (mkF m pc ls (.int y :: .int x :: st))) := by
  subst hq
  by_cases q : x < y
  · exact Goes.on (fun _ k => XS.icmpYes X.here C.1 rfl (pc0 := pc) (pc' := pcT) rfl (hb C.2.2.1 hd) rfl (tlt q).1 ho hp k) (hyes q)
  · exact Goes.on (fun _ k => XS.icmpNo X.here C.1 rfl (hb C.2.2.1 hd) rfl (flt q).1 k) (hno q)
theorem g_if_lt (C : Ctx p Z s m meth c bs own maxL ret) (X : Stand p l e R s m args below meth c T locs cells slots) {pc : Nat} {ls : Array Slot} {st : List Value} {x : Int32} {o : Int} (hd : decode bs pc = .ok (.ifCond .lt o, 3)) (pcT pcN : Nat) (hyes : x < (0 : Int32) → Goes p.tables e below G (T.setTop (mkF m pcT ls st))) (hno : ¬ x < (0 : Int32) → Goes p.tables e below G (T.setTop (mkF m pcN ls st))) (ho : 0 ≤ (pc : Int) + o := by decide) (hp : ((pc : Int) + o).toNat = pcT := by decide) (hq : pc + 3 = pcN := by rfl) : Goes p.tables e below G (T.setTop (mkF m pc ls (.int x :: st))) := by
  subst hq
  by_cases q : x < (0 : Int32)
  · exact Goes.on (fun _ k => XS.ifYes X.here C.1 rfl (pc0 := pc) (pc' := pcT) rfl (hb C.2.2.1 hd) rfl ((if0 _ _).trans (tlt q).1) ho hp k) (hyes q)
  · exact Goes.on (fun _ k => XS.ifNo X.here C.1 rfl (hb C.2.2.1 hd) rfl ((if0 _ _).trans (flt q).1) k) (hno q)
theorem g_icmp_ge (C : Ctx p Z s m meth c bs own maxL ret) (X : Stand p l e R s m args below meth c T locs cells slots) {pc : Nat} {ls : Array Slot} {st : List Value} {x y : Int32} {o : Int} (hd : decode bs pc = .ok (.if_icmp .ge o, 3)) (pcT pcN : Nat) (hyes : ¬ x < y → Goes p.tables e below G (T.setTop (mkF m pcT ls st))) (hno : x < y → Goes p.tables e below G (T.setTop (mkF m pcN ls st))) (ho : 0 ≤ (pc : Int) + o := by decide) (hp : ((pc : Int) + o).toNat = pcT := by decide) (hq : pc + 3 = pcN := by rfl) : Goes p.tables e below G (T.setTop (mkF m pc ls (.int y :: .int x :: st))) := by
  subst hq
  by_cases q : x < y
  · exact Goes.on (fun _ k => XS.icmpNo X.here C.1 rfl (hb C.2.2.1 hd) rfl (tlt q).2.1 k) (hno q)
  · exact Goes.on (fun _ k => XS.icmpYes X.here C.1 rfl (pc0 := pc) (pc' := pcT) rfl (hb C.2.2.1 hd) rfl (flt q).2.1 ho hp k) (hyes q)
theorem g_if_ge (C : Ctx p Z s m meth c bs own maxL ret) (X : Stand p l e R s m args below meth c T locs cells slots) {pc : Nat} {ls : Array Slot} {st : List Value} {x : Int32} {o : Int} (hd : decode bs pc = .ok (.ifCond .ge o, 3)) (pcT pcN : Nat) (hyes : ¬ x < (0 : Int32) → Goes p.tables e below G (T.setTop (mkF m pcT ls st))) (hno : x < (0 : Int32) → Goes p.tables e below G (T.setTop (mkF m pcN ls st))) (ho : 0 ≤ (pc : Int) + o := by decide) (hp : ((pc : Int) + o).toNat = pcT := by decide) (hq : pc + 3 = pcN := by rfl) : Goes p.tables e below G (T.setTop (mkF m pc ls (.int x :: st))) := by
  subst hq
  by_cases q : x < (0 : Int32)
  · exact Goes.on (fun _ k => XS.ifNo X.here C.1 rfl (hb C.2.2.1 hd) rfl ((if0 _ _).trans (tlt q).2.1) k) (hno q)
  · exact Goes.on (fun _ k => XS.ifYes X.here C.1 rfl (pc0 := pc) (pc' := pcT) rfl (hb C.2.2.1 hd) rfl ((if0 _ _).trans (flt q).2.1) ho hp k) (hyes q)
theorem g_lcmp_ge (C : Ctx p Z s m meth c bs own maxL ret) (X : Stand p l e R s m args below meth c T locs cells slots) {pc : Nat} {ls : Array Slot} {st : List Value} {x y : Int64} {o : Int} (hd : decode bs pc = .ok (.lcmp, 1)) (pc1 : Nat) (hd1 : decode bs pc1 = .ok (.ifCond .ge o, 3)) (pcT pcN : Nat) (hyes : ¬ x < y → Goes p.tables e below G (T.setTop (mkF m pcT ls st))) (hno : x < y → Goes p.tables e below G (T.setTop (mkF m pcN ls st))) (h1 : pc + 1 = pc1 := by rfl) (ho : 0 ≤ (pc1 : Int) + o := by decide) (hp : ((pc1 : Int) + o).toNat = pcT := by decide) (hq : pc1 + 3 = pcN := by rfl) : Goes p.tables e below G (T.setTop (mkF m pc ls (.long y :: .long x :: st))) := by
  subst h1
  exact Goes.on (fun _ k => XT.lcmp X.here C.1 rfl (hb C.2.2.1 hd) rfl k) (g_if_ge C X hd1 pcT pcN (fun q => hyes ((not_congr (cmpL_lt x y)).mp q)) (fun q => hno ((cmpL_lt x y).mp q)) ho hp hq)
theorem g_icmp_gt (C : Ctx p Z s m meth c bs own maxL ret) (X : Stand p l e R s m args below meth c T locs cells slots) {pc : Nat} {ls : Array Slot} {st : List Value} {x y : Int32} {o : Int} (hd : decode bs pc = .ok (.if_icmp .gt o, 3)) (pcT pcN : Nat) (hyes : y < x → Goes p.tables e below G (T.setTop (mkF m pcT ls st))) (hno : ¬ y < x → Goes p.tables e below G (T.setTop (mkF m pcN ls st))) (ho : 0 ≤ (pc : Int) + o := by decide) (hp : ((pc : Int) + o).toNat = pcT := by decide) (hq : pc + 3 = pcN := by rfl) : Goes p.tables e below G (T.setTop (mkF m pc ls (.int y :: .int x :: st))) := by
  subst hq
  by_cases q : y < x
  · exact Goes.on (fun _ k => XS.icmpYes X.here C.1 rfl (pc0 := pc) (pc' := pcT) rfl (hb C.2.2.1 hd) rfl (tlt q).2.2.1 ho hp k) (hyes q)
  · exact Goes.on (fun _ k => XS.icmpNo X.here C.1 rfl (hb C.2.2.1 hd) rfl (flt q).2.2.1 k) (hno q)
theorem g_if_gt (C : Ctx p Z s m meth c bs own maxL ret) (X : Stand p l e R s m args below meth c T locs cells slots) {pc : Nat} {ls : Array Slot} {st : List Value} {x : Int32} {o : Int} (hd : decode bs pc = .ok (.ifCond .gt o, 3)) (pcT pcN : Nat) (hyes : (0 : Int32) < x → Goes p.tables e below G (T.setTop (mkF m pcT ls st))) (hno : ¬ (0 : Int32) < x → Goes p.tables e below G (T.setTop (mkF m pcN ls st))) (ho : 0 ≤ (pc : Int) + o := by decide) (hp : ((pc : Int) + o).toNat = pcT := by decide) (hq : pc + 3 = pcN := by rfl) : Goes p.tables e below G (T.setTop (mkF m pc ls (.int x :: st))) := by
  subst hq
  by_cases q : (0 : Int32) < x
  · exact Goes.on (fun _ k => XS.ifYes X.here C.1 rfl (pc0 := pc) (pc' := pcT) rfl (hb C.2.2.1 hd) rfl ((if0 _ _).trans (tlt q).2.2.1) ho hp k) (hyes q)
  · exact Goes.on (fun _ k => XS.ifNo X.here C.1 rfl (hb C.2.2.1 hd) rfl ((if0 _ _).trans (flt q).2.2.1) k) (hno q)
theorem g_icmp_le (C : Ctx p Z s m meth c bs own maxL ret) (X : Stand p l e R s m args below meth c T locs cells slots) {pc : Nat} {ls : Array Slot} {st : List Value} {x y : Int32} {o : Int} (hd : decode bs pc = .ok (.if_icmp .le o, 3)) (pcT pcN : Nat) (hyes : ¬ y < x → Goes p.tables e below G (T.setTop (mkF m pcT ls st))) (hno : y < x → Goes p.tables e below G (T.setTop (mkF m pcN ls st))) (ho : 0 ≤ (pc : Int) + o := by decide) (hp : ((pc : Int) + o).toNat = pcT := by decide) (hq : pc + 3 = pcN := by rfl) : Goes p.tables e below G (T.setTop (mkF m pc ls (.int y :: .int x :: st))) := by
  subst hq
  by_cases q : y < x
  · exact Goes.on (fun _ k => XS.icmpNo X.here C.1 rfl (hb C.2.2.1 hd) rfl (tlt q).2.2.2 k) (hno q)
  · exact Goes.on (fun _ k => XS.icmpYes X.here C.1 rfl (pc0 := pc) (pc' := pcT) rfl (hb C.2.2.1 hd) rfl (flt q).2.2.2 ho hp k) (hyes q)
theorem g_if_le (C : Ctx p Z s m meth c bs own maxL ret) (X : Stand p l e R s m args below meth c T locs cells slots) {pc : Nat} {ls : Array Slot} {st : List Value} {x : Int32} {o : Int} (hd : decode bs pc = .ok (.ifCond .le o, 3)) (pcT pcN : Nat) (hyes : ¬ (0 : Int32) < x → Goes p.tables e below G (T.setTop (mkF m pcT ls st))) (hno : (0 : Int32) < x → Goes p.tables e below G (T.setTop (mkF m pcN ls st))) (ho : 0 ≤ (pc : Int) + o := by decide) (hp : ((pc : Int) + o).toNat = pcT := by decide) (hq : pc + 3 = pcN := by rfl) : Goes p.tables e below G (T.setTop (mkF m pc ls (.int x :: st))) := by
  subst hq
  by_cases q : (0 : Int32) < x
  · exact Goes.on (fun _ k => XS.ifNo X.here C.1 rfl (hb C.2.2.1 hd) rfl ((if0 _ _).trans (tlt q).2.2.2) k) (hno q)
  · exact Goes.on (fun _ k => XS.ifYes X.here C.1 rfl (pc0 := pc) (pc' := pcT) rfl (hb C.2.2.1 hd) rfl ((if0 _ _).trans (flt q).2.2.2) ho hp k) (hyes q)
theorem g_ldc (C : Ctx p Z s m meth c bs own maxL ret) (X : Stand p l e R s m args below meth c T locs cells slots) {pc : Nat} {ls : Array Slot} {st : List Value} {i : Nat} {v : Int32} (w : (Cond.constant own i v).before a0 Z = true) (hd : decode bs pc = .ok (.ldc i, 2)) (pc' : Nat) (k : Goes p.tables e below G (T.setTop (mkF m pc' ls (.int v :: st)))) (hp : pc + 2 = pc' := by rfl) : Goes p.tables e below G (T.setTop (mkF m pc ls st)) := by
  subst hp
  exact Goes.on (fun _ k => X.ldcInt C.1 C.2.2.2.2.1 (mvT C.2.1 w) (g := mkF m pc ls st) rfl (hb C.2.2.1 hd) _ k) k
theorem g_ldc2 (C : Ctx p Z s m meth c bs own maxL ret) (X : Stand p l e R s m args below meth c T locs cells slots) {pc : Nat} {ls : Array Slot} {st : List Value} {i : Nat} {v : Int64} (w : (Cond.constantLong own i v).before a0 Z = true) (hd : decode bs pc = .ok (.ldc2_w i, 3)) (pc' : Nat) (k : Goes p.tables e below G (T.setTop (mkF m pc' ls (.long v :: st)))) (hp : pc + 3 = pc' := by rfl) : Goes p.tables e below G (T.setTop (mkF m pc ls st)) := by
  subst hp
  exact Goes.on (fun _ k => X.ldc2Long C.1 C.2.2.2.2.1 (mvT C.2.1 w) (g := mkF m pc ls st) rfl (hb C.2.2.1 hd) _ k) k
theorem g_retN {t : FieldType} (C : Ctx p Z s m meth c bs own maxL (some t)) (X : Stand p l e R s m args below meth c T locs cells slots) {Q : Option Value → Heap → List Loc → Prop} (K : ∀ (v : Option Value) (L : List Loc) (T' : State), Q v T'.heap L → s.WarmedH T'.vm → s.sameButNew ({ T' with vm := s.vm } : State) L R.cells R.slots → G (.returned v) T') {pc : Nat} {ls : Array Slot} {rest : List Value} {z : Int32} (ht : t = .boolean ∨ t = .byte ∨ t = .char ∨ t = .short) (hd : decode bs pc = .ok (.ireturn, 1)) (hc : cells ≤ R.cells) (hs : slots ≤ R.slots) (eT : T.heap = h) (hQ : Q (some (.int (nar t z))) h locs) : Goes p.tables e below G (T.setTop (mkF m pc ls (.int z :: rest))) := by
  have hlk : meth.locks = false := C.2.2.2.2.2.2
  obtain ⟨fs, hr, hrun, hended, hW, hsame⟩ := X.leave (v := some (.int (nar t z))) (fun q => by rw [C.2.2.2.2.2.1] at q; cases q) hlk
  refine ⟨_, _, ?_, hrun, hended, K _ locs _ (by show Q _ T.heap locs; rw [eT]; exact hQ) hW (hsame.mono hc hs)⟩
  exact retN X C.1 C.2.2.2.2.2.1 ht (hb C.2.2.1 hd) hr
theorem g_retI (C : Ctx p Z s m meth c bs own maxL (some .int)) (X : Stand p l e R s m args below meth c T locs cells slots) {Q : Option Value → Heap → List Loc → Prop} (K : ∀ (v : Option Value) (L : List Loc) (T' : State), Q v T'.heap L → s.WarmedH T'.vm → s.sameButNew ({ T' with vm := s.vm } : State) L R.cells R.slots → G (.returned v) T') {pc : Nat} {ls : Array Slot} {rest : List Value} {z : Int32} (hd : decode bs pc = .ok (.ireturn, 1)) (hc : cells ≤ R.cells) (hs : slots ≤ R.slots) (eT : T.heap = h) (hQ : Q (some (.int z)) h locs) : Goes p.tables e below G (T.setTop (mkF m pc ls (.int z :: rest))) := by
  have hlk : meth.locks = false := C.2.2.2.2.2.2
  obtain ⟨fs, hr, hrun, hended, hW, hsame⟩ := X.leave (v := some (.int z)) (fun q => by rw [C.2.2.2.2.2.1] at q; cases q) hlk
  refine ⟨_, _, ?_, hrun, hended, K _ locs _ (by show Q _ T.heap locs; rw [eT]; exact hQ) hW (hsame.mono hc hs)⟩
  exact retOut X C.1 (w := .int z) (i := .ireturn) C.2.2.2.2.2.1 rfl (Or.inl ⟨rfl, Or.inl rfl, z, rfl⟩) (hb C.2.2.1 hd) hr
theorem g_retJ (C : Ctx p Z s m meth c bs own maxL (some .long)) (X : Stand p l e R s m args below meth c T locs cells slots) {Q : Option Value → Heap → List Loc → Prop} (K : ∀ (v : Option Value) (L : List Loc) (T' : State), Q v T'.heap L → s.WarmedH T'.vm → s.sameButNew ({ T' with vm := s.vm } : State) L R.cells R.slots → G (.returned v) T') {pc : Nat} {ls : Array Slot} {rest : List Value} {z : Int64} (hd : decode bs pc = .ok (.lreturn, 1)) (hc : cells ≤ R.cells) (hs : slots ≤ R.slots) (eT : T.heap = h) (hQ : Q (some (.long z)) h locs) : Goes p.tables e below G (T.setTop (mkF m pc ls (.long z :: rest))) := by
  have hlk : meth.locks = false := C.2.2.2.2.2.2
  obtain ⟨fs, hr, hrun, hended, hW, hsame⟩ := X.leave (v := some (.long z)) (fun q => by rw [C.2.2.2.2.2.1] at q; cases q) hlk
  refine ⟨_, _, ?_, hrun, hended, K _ locs _ (by show Q _ T.heap locs; rw [eT]; exact hQ) hW (hsame.mono hc hs)⟩
  exact retOut X C.1 (w := .long z) (i := .lreturn) C.2.2.2.2.2.1 rfl (Or.inr (Or.inl ⟨rfl, rfl, z, rfl⟩)) (hb C.2.2.1 hd) hr
theorem g_retA {t : FieldType} (C : Ctx p Z s m meth c bs own maxL (some t)) (X : Stand p l e R s m args below meth c T locs cells slots) {Q : Option Value → Heap → List Loc → Prop} (K : ∀ (v : Option Value) (L : List Loc) (T' : State), Q v T'.heap L → s.WarmedH T'.vm → s.sameButNew ({ T' with vm := s.vm } : State) L R.cells R.slots → G (.returned v) T') {pc : Nat} {ls : Array Slot} {rest : List Value} {w : Value} (ht : t.isReference = true) (hn : narrow t w = w) (hw : w.isRef = true) (hd : decode bs pc = .ok (.areturn, 1)) (hc : cells ≤ R.cells) (hs : slots ≤ R.slots) (eT : T.heap = h) (hQ : Q (some w) h locs) : Goes p.tables e below G (T.setTop (mkF m pc ls (w :: rest))) := by
  have hlk : meth.locks = false := C.2.2.2.2.2.2
  obtain ⟨fs, hr, hrun, hended, hW, hsame⟩ := X.leave (v := some w) (fun q => by rw [C.2.2.2.2.2.1] at q; cases q) hlk
  refine ⟨_, _, ?_, hrun, hended, K _ locs _ (by show Q _ T.heap locs; rw [eT]; exact hQ) hW (hsame.mono hc hs)⟩
  exact retOut X C.1 (w := w) (i := .areturn) C.2.2.2.2.2.1 hn (Or.inr (Or.inr (Or.inr (Or.inr ⟨rfl, ht, hw⟩)))) (hb C.2.2.1 hd) hr
theorem g_retV (C : Ctx p Z s m meth c bs own maxL (none)) (X : Stand p l e R s m args below meth c T locs cells slots) {Q : Option Value → Heap → List Loc → Prop} (K : ∀ (v : Option Value) (L : List Loc) (T' : State), Q v T'.heap L → s.WarmedH T'.vm → s.sameButNew ({ T' with vm := s.vm } : State) L R.cells R.slots → G (.returned v) T') {pc : Nat} {ls : Array Slot}  (hd : decode bs pc = .ok (.return_, 1)) (hc : cells ≤ R.cells) (hs : slots ≤ R.slots) (eT : T.heap = h) (hQ : Q (none) h locs) : Goes p.tables e below G (T.setTop (mkF m pc ls [])) := by
  have hlk : meth.locks = false := C.2.2.2.2.2.2
  obtain ⟨fs, hr, hrun, hended, hW, hsame⟩ := X.leave (v := none) (fun _ => rfl) hlk
  refine ⟨_, _, ?_, hrun, hended, K _ locs _ (by show Q _ T.heap locs; rw [eT]; exact hQ) hW (hsame.mono hc hs)⟩
  exact X.returnOut C.1 C.2.2.2.2.2.1 (hb C.2.2.1 hd) hr
theorem g_getF (C : Ctx p Z s m meth c bs own maxL ret) (X : Stand p l e R s m args below meth c T locs cells slots) {pc : Nat} {ls : Array Slot} {st : List Value} {R0 O n d : String} {index : Nat} {a : Addr} {v : Value} (w : (Cond.fieldLink own index R0 n d).before a0 Z = true) (via : Via Z R0 O n d) (eT : T.heap = h) (F : Fld Z h a O n d v) (hd : decode bs pc = .ok (.getfield index, 3)) (pc' : Nat) (k : ∀ T' : State, Stand p l e R s m args below meth c T' locs cells slots → T'.heap = h → Goes p.tables e below G (T'.setTop (mkF m pc' ls (v :: st)))) (hp : pc + 3 = pc' := by rfl) : Goes p.tables e below G (T.setTop (mkF m pc ls (.ref a :: st))) := by
  subst hp
  obtain ⟨T', X', e', st'⟩ := getF X C.1 C.2.1 C.2.2.2.2.1 (host := "") (Or.inl w) via eT F (g := mkF m pc ls (.ref a :: st)) rfl rfl (hb C.2.2.1 hd)
  exact Goes.on (fun t k => st' t k) (k T' X' e')
theorem g_getS (C : Ctx p Z s m meth c bs own maxL ret) (X : Stand p l e R s m args below meth c T locs cells slots) {pc : Nat} {ls : Array Slot} {st : List Value} {R0 O n d : String} {index : Nat} {v : Value} (w : (Cond.fieldLink own index R0 n d).before a0 Z = true) (via : Via Z R0 O n d) (eT : T.heap = h) (F : Sta Z h O n d v) (hd : decode bs pc = .ok (.getstatic index, 3)) (pc' : Nat) (k : ∀ T' : State, Stand p l e R s m args below meth c T' locs cells slots → T'.heap = h → Goes p.tables e below G (T'.setTop (mkF m pc' ls (v :: st)))) (hp : pc + 3 = pc' := by rfl) : Goes p.tables e below G (T.setTop (mkF m pc ls st)) := by
  subst hp
  obtain ⟨T', X', e', st'⟩ := getS2 X C.1 C.2.1 C.2.2.2.2.1 (host := "") (Or.inl w) via eT F (g := mkF m pc ls st) rfl (hb C.2.2.1 hd)
  exact Goes.on (fun t k => st' t k) (k T' X' e')
theorem g_putF (C : Ctx p Z s m meth c bs own maxL ret) (X : Stand p l e R s m args below meth c T locs cells slots) {pc : Nat} {ls : Array Slot} {st : List Value} {R0 O n d K : String} {index kk : Nat} {ty : FieldType} {a : Addr} {v old : Value} (w : (Cond.fieldLink own index R0 n d).before a0 Z = true) (via : Via Z R0 O n d) (eT : T.heap = h) (F : Fld Z h a O n d old) (E : Exa Z h a K) (L : (Cond.lays K O n d).before a0 Z = true ∨ ((Cond.laysFinal K O n d).before a0 Z = true ∧ own = O ∧ meth.name = "<init>")) (wi : (Cond.instantiable K kk).before a0 Z = true) (hty : parseFieldDescriptor d = some ty) (hn : narrow ty v = v) (hf : fits ty v = true) (hd : decode bs pc = .ok (.putfield index, 3)) (pc' : Nat) (k : ∀ (T' : State) (h' : Heap), Stand p l e R s m args below meth c T' (locs ++ [⟨a, Jvm.RoadKit.slotOf Z O n d⟩]) cells slots → T'.heap = h' → Wr h h' a (Jvm.RoadKit.slotOf Z O n d) v → Goes p.tables e below G (T'.setTop (mkF m pc' ls st))) (hp : pc + 3 = pc' := by rfl) : Goes p.tables e below G (T.setTop (mkF m pc ls (v :: .ref a :: st))) := by
  subst hp
  obtain ⟨T', h', X', e', W', st'⟩ := putF X C.1 C.2.1 C.2.2.2.2.1 (host := "") (Or.inl w) via eT F E L wi hty hn hf (g := mkF m pc ls (v :: .ref a :: st)) rfl rfl (hb C.2.2.1 hd)
  exact Goes.on (fun t k => st' t k) (k T' h' X' e' W')
theorem g_putFN (C : Ctx p Z s m meth c bs own maxL ret) (X : Stand p l e R s m args below meth c T locs cells slots) {pc : Nat} {ls : Array Slot} {st : List Value} {R0 O n d K : String} {index kk : Nat} {ty : FieldType} {a : Addr} {v old v' : Value} (w : (Cond.fieldLink own index R0 n d).before a0 Z = true) (via : Via Z R0 O n d) (eT : T.heap = h) (F : Fld Z h a O n d old) (E : Exa Z h a K) (L : (Cond.lays K O n d).before a0 Z = true ∨ ((Cond.laysFinal K O n d).before a0 Z = true ∧ own = O ∧ meth.name = "<init>")) (wi : (Cond.instantiable K kk).before a0 Z = true) (hty : parseFieldDescriptor d = some ty) (hn : narrow ty v = v') (hf : fits ty v' = true) (hd : decode bs pc = .ok (.putfield index, 3)) (pc' : Nat) (k : ∀ (T' : State) (h' : Heap), Stand p l e R s m args below meth c T' (locs ++ [⟨a, Jvm.RoadKit.slotOf Z O n d⟩]) cells slots → T'.heap = h' → Wr h h' a (Jvm.RoadKit.slotOf Z O n d) v' → Goes p.tables e below G (T'.setTop (mkF m pc' ls st))) (hp : pc + 3 = pc' := by rfl) : Goes p.tables e below G (T.setTop (mkF m pc ls (v :: .ref a :: st))) := by
  subst hp
  obtain ⟨T', h', X', e', W', st'⟩ := putFN X C.1 C.2.1 C.2.2.2.2.1 w via eT F E L wi hty hn hf (g := mkF m pc ls (v :: .ref a :: st)) rfl rfl (hb C.2.2.1 hd)
  exact Goes.on (fun t k => st' t k) (k T' h' X' e' W')
theorem g_new (C : Ctx p Z s m meth c bs own maxL ret) (X : Stand p l e R s m args below meth c T locs cells slots) {pc : Nat} {ls : Array Slot} {st : List Value} {K : String} {index n : Nat} (w : (Cond.classLink own index K).before a0 Z = true) (wi : (Cond.instantiable K n).before a0 Z = true) (wz : (Cond.initialized K).before a0 Z = true) (eT : T.heap = h) (hd : decode bs pc = .ok (.new index, 3)) (pc' : Nat) (hc : cells + 1 ≤ R.cells) (hs : slots + n ≤ R.slots) (k : ∀ (T' : State) (h' : Heap) (b : Addr), Stand p l e R s m args below meth c T' locs (cells + 1) (slots + n) → T'.heap = h' → b = h.size → Ext h h' → Exa Z h' b K → (∀ {O nm d : String} {ty : FieldType}, Laid Z a0 K O nm d → parseFieldDescriptor d = some ty → Fld Z h' b O nm d (defaultValue ty)) → Goes p.tables e below G (T'.setTop (mkF m pc' ls (.ref b :: st)))) (hp : pc + 3 = pc' := by rfl) : Goes p.tables e below G (T.setTop (mkF m pc ls st)) := by
  subst hp
  obtain ⟨T', h', X', e', E', A', D', -, st'⟩ := newO X C.1 C.2.1 C.2.2.2.2.1 w wi wz eT (g := mkF m pc ls st) rfl (hb C.2.2.1 hd) hc hs
  exact Goes.on (fun t k => st' t k) (k T' h' h.size X' e' rfl E' A' D')
theorem g_initO (C : Ctx p Z s m meth c bs own maxL ret) (X : Stand p l e R s m args below meth c T locs cells slots) {pc : Nat} {ls : Array Slot} {st : List Value} {idx : Nat} {a : Addr} (w1 : (Cond.methodLink own idx Lib.objectInit).before a0 Z = true) (w2 : (Cond.instanceMethod Lib.objectInit).before a0 Z = true) (w3 : (Cond.code Lib.objectInit ⟨#[0xb1]⟩ 1 none).before a0 Z = true) (eT : T.heap = h) (hls : ls.size = maxL) (hd : decode bs pc = .ok (.invokespecial idx, 3)) (pc' : Nat) (hf : 1 ≤ R.frames) {W : Nat} (hW : (st.map fun v => v.category).sum ≤ W) (hl : W + 12 ≤ R.locals) (k : ∀ T' : State, Stand p l e R s m args below meth c T' locs cells slots → T'.heap = h → Goes p.tables e below G (T'.setTop (mkF m pc' ls st))) (hp : pc + 3 = pc' := by rfl) : Goes p.tables e below G (T.setTop (mkF m pc ls (.ref a :: st))) := by
  subst hp
  obtain ⟨T', X', e', st'⟩ := initO X C.1 C.2.1 C.2.2.2.2.1 w1 w2 w3 eT (g := mkF m pc ls (.ref a :: st)) rfl (by rw [C.2.2.2.1]; exact hls) rfl (hb C.2.2.1 hd) hf (W := W) (by show 2 * 0 + _ ≤ _; omega) hl
  exact Goes.on (fun t k => st' t k) (k T' X' e')
theorem g_callS (C : Ctx p Z s m meth c bs own maxL ret) (X : Stand p l e R s m args below meth c T locs cells slots) {pc : Nat} {ls : Array Slot} {y : MethodName} {index : Nat} {bytes : ByteArray} {maxY : Nat} {retY : Option FieldType} {rm : Room} {Q : Option Value → Heap → List Loc → Prop} {ps : List FieldType} {rr : Option FieldType} {stk : List Value} (w1 : (Cond.methodLink own index y).before a0 Z = true) (w2 : (Cond.static y).before a0 Z = true) (w3 : (Cond.initialized y.cls).before a0 Z = true) (w4 : (Cond.code y bytes maxY retY).before a0 Z = true) (hd : decode bs pc = .ok (.invokestatic index, 3)) (argsL rest : List Value) (W : Nat) (hM : MetFree l y (head1 [Cond.code y bytes maxY retY] rm) (fun a' U => a' = argsL.toArray ∧ Z.Warmed39 U.vm ∧ U.heap = h) (fun _ _ _ _ _ => True) (fun _ U o U' => ∃ v L, o = .returned v ∧ Q v U'.heap L ∧ FrameEnd U o U' L rm.cells rm.slots)) (hpd : parseMethodDescriptor y.desc = some ⟨ps, rr⟩) (eT : T.heap = h) (pc' : Nat) (k : ∀ (v : Option Value) (T' : State) (L : List Loc), Stand p l e R s m args below meth c T' (locs ++ L) (cells + rm.cells) (slots + rm.slots) → Q v T'.heap L → Goes p.tables e below G (T'.setTop (mkF m pc' ls (v.toList ++ rest)))) (hy : y.cls ≠ "java/lang/invoke/MethodHandle" ∧ y.cls ≠ "java/lang/invoke/VarHandle" := by decide) (hf : rm.frames + 1 ≤ R.frames := by decide) (hl : W + (maxY + 11) + rm.locals ≤ R.locals := by decide) (hls : ls.size = maxL := by rfl) (hlen : argsL.length = ps.length := by rfl) (hst : stk = argsL.reverse ++ rest := by rfl) (hW : (rest.map fun v => v.category).sum ≤ W := by exact Nat.le_of_eq rfl) (hc : cells + rm.cells ≤ R.cells := by decide) (hs : slots + rm.slots ≤ R.slots := by decide) (hp : pc + 3 = pc' := by rfl) : Goes p.tables e below G (T.setTop (mkF m pc ls stk)) := by
  subst hp hst
  obtain ⟨v, _, ⟨T', L', k', n'⟩, -, X', ⟨L, hQ, l1, l2, l3⟩, st'⟩ := Jvm.LawKit.callS X C.1 (y := y) C.2.2.2.2.1 (mvT C.2.1 w1) (mvT C.2.1 w2) (mvT C.2.1 w3) (mvT C.2.1 w4) hy (backOf (W := W) hM C.2.1 w4 w3 hf hl) (g := mkF m pc ls (argsL.reverse ++ rest)) rfl (by rw [C.2.2.2.1]; exact hls) (argsL := argsL) (rest := rest) (lenOf hpd hlen) rfl (by show 2 * 0 + _ ≤ _; omega) (hb C.2.2.1 hd) (fun _ _ => ⟨rfl, eT, hc, hs⟩)
  dsimp only [Pt.U, Pt.locs, Pt.cells, Pt.slots] at X' l1 l2 l3 st' hQ
  subst l1 l2 l3
  exact Goes.on (fun t k => st' t k) (k v T' L X' hQ)
theorem g_callI (C : Ctx p Z s m meth c bs own maxL ret) (X : Stand p l e R s m args below meth c T locs cells slots) {pc : Nat} {ls : Array Slot} {a : Addr} {y : MethodName} {index : Nat} {bytes : ByteArray} {maxY : Nat} {rm : Room} {Q : Option Value → Heap → List Loc → Prop} {ps : List FieldType} {rr : Option FieldType} {stk : List Value} (hn : y.name = "<init>") (w1 : (Cond.methodLink own index y).before a0 Z = true) (w2 : (Cond.instanceMethod y).before a0 Z = true) (w3 : (Cond.initialized y.cls).before a0 Z = true) (w4 : (Cond.code y bytes maxY none).before a0 Z = true) (hd : decode bs pc = .ok (.invokespecial index, 3)) (argsL rest : List Value) (W : Nat) (hM : MetFree l y (head1 [Cond.code y bytes maxY none] rm) (fun a' U => a' = (.ref a :: argsL).toArray ∧ Z.Warmed39 U.vm ∧ U.heap = h) (fun _ _ _ _ _ => True) (fun _ U o U' => ∃ v L, o = .returned v ∧ Q v U'.heap L ∧ FrameEnd U o U' L rm.cells rm.slots)) (hpd : parseMethodDescriptor y.desc = some ⟨ps, rr⟩) (eT : T.heap = h) (pc' : Nat) (k : ∀ (v : Option Value) (T' : State) (L : List Loc), Stand p l e R s m args below meth c T' (locs ++ L) (cells + rm.cells) (slots + rm.slots) → Q v T'.heap L → Goes p.tables e below G (T'.setTop (mkF m pc' ls (v.toList ++ rest)))) (hy : y.cls ≠ "java/lang/invoke/MethodHandle" ∧ y.cls ≠ "java/lang/invoke/VarHandle" := by decide) (hf : rm.frames + 1 ≤ R.frames := by decide) (hl : W + (maxY + 11) + rm.locals ≤ R.locals := by decide) (hls : ls.size = maxL := by rfl) (hlen : argsL.length = ps.length := by rfl) (hst : stk = argsL.reverse ++ .ref a :: rest := by rfl) (hW : (rest.map fun v => v.category).sum ≤ W := by exact Nat.le_of_eq rfl) (hc : cells + rm.cells ≤ R.cells := by decide) (hs : slots + rm.slots ≤ R.slots := by decide) (hp : pc + 3 = pc' := by rfl) : Goes p.tables e below G (T.setTop (mkF m pc ls stk)) := by
  subst hp hst
  obtain ⟨v, _, ⟨T', L', k', n'⟩, -, X', ⟨L, hQ, l1, l2, l3⟩, st'⟩ := X.specialBack C.1 (y := y) hn C.2.2.2.2.1 (mvT C.2.1 w1) (mvT C.2.1 w2) (mvT C.2.1 w4) hy (backOf (W := W) hM C.2.1 w4 w3 hf hl) (g := mkF m pc ls (argsL.reverse ++ .ref a :: rest)) rfl (by rw [C.2.2.2.1]; exact hls) (Steps.refl _) (a := a) (argsL := argsL) (rest := rest) (lenOf hpd hlen) rfl (by show 2 * 0 + _ ≤ _; omega) (hb C.2.2.1 hd) (fun _ _ => ⟨rfl, eT, hc, hs⟩)
  dsimp only [Pt.U, Pt.locs, Pt.cells, Pt.slots] at X' l1 l2 l3 st' hQ
  subst l1 l2 l3
  exact Goes.on (fun t k => st'.trans k) (k v T' L X' hQ)
theorem g_callV (C : Ctx p Z s m meth c bs own maxL ret) (X : Stand p l e R s m args below meth c T locs cells slots) {pc : Nat} {ls : Array Slot} {a : Addr} {K : String} {y z : MethodName} {index : Nat} {bytes : ByteArray} {maxY : Nat} {retY : Option FieldType} {rm : Room} {Q : Option Value → Heap → List Loc → Prop} {ps : List FieldType} {rr : Option FieldType} {stk : List Value} (w1 : (Cond.methodLink own index y).before a0 Z = true) (w2 : (Cond.declares y).before a0 Z = true) (hnf : NotFace s y) (w3 : (Cond.selects K y z).before a0 Z = true) (w4 : (Cond.instanceMethod z).before a0 Z = true) (w5 : (Cond.code z bytes maxY retY).before a0 Z = true) (w6 : (Cond.initialized z.cls).before a0 Z = true) (E : Exa Z h a K) (hd : decode bs pc = .ok (.invokevirtual index, 3)) (argsL rest : List Value) (W : Nat) (hM : MetFree l z (head1 [Cond.code z bytes maxY retY] rm) (fun a' U => a' = (.ref a :: argsL).toArray ∧ Z.Warmed39 U.vm ∧ U.heap = h) (fun _ _ _ _ _ => True) (fun _ U o U' => ∃ v L, o = .returned v ∧ Q v U'.heap L ∧ FrameEnd U o U' L rm.cells rm.slots)) (hpd : parseMethodDescriptor y.desc = some ⟨ps, rr⟩) (eT : T.heap = h) (pc' : Nat) (k : ∀ (v : Option Value) (T' : State) (L : List Loc), Stand p l e R s m args below meth c T' (locs ++ L) (cells + rm.cells) (slots + rm.slots) → Q v T'.heap L → Goes p.tables e below G (T'.setTop (mkF m pc' ls (v.toList ++ rest)))) (hy : y.cls ≠ "java/lang/invoke/MethodHandle" ∧ y.cls ≠ "java/lang/invoke/VarHandle" := by decide) (hf : rm.frames + 1 ≤ R.frames := by decide) (hl : W + (maxY + 11) + rm.locals ≤ R.locals := by decide) (hls : ls.size = maxL := by rfl) (hlen : argsL.length = ps.length := by rfl) (hst : stk = argsL.reverse ++ .ref a :: rest := by rfl) (hW : (rest.map fun v => v.category).sum ≤ W := by exact Nat.le_of_eq rfl) (hc : cells + rm.cells ≤ R.cells := by decide) (hs : slots + rm.slots ≤ R.slots := by decide) (hp : pc + 3 = pc' := by rfl) : Goes p.tables e below G (T.setTop (mkF m pc ls stk)) := by
  subst hp hst
  obtain ⟨cq, kq, qa, qb, qc⟩ := isOf C.2.1 eT E
  obtain ⟨v, _, ⟨T', L', k', n'⟩, -, X', ⟨L, hQ, l1, l2, l3⟩, st'⟩ := X.virtualBack C.1 (y := y) (z := z) C.2.2.2.2.1 (mvT C.2.1 w1) (mvT C.2.1 w2) hnf (mvT C.2.1 w3) (mvT C.2.1 w4) hy (backOf (W := W) hM C.2.1 w5 w6 hf hl) qa qc (g := mkF m pc ls (argsL.reverse ++ .ref a :: rest)) rfl (by rw [C.2.2.2.1]; exact hls) (Steps.refl _) (argsL := argsL) (rest := rest) (lenOf hpd hlen) rfl (by show 2 * 0 + _ ≤ _; omega) (hb C.2.2.1 hd) (fun _ _ => ⟨rfl, eT, hc, hs⟩)
  dsimp only [Pt.U, Pt.locs, Pt.cells, Pt.slots] at X' l1 l2 l3 st' hQ
  subst l1 l2 l3
  exact Goes.on (fun t k => st'.trans k) (k v T' L X' hQ)
theorem g_callU (C : Ctx p Z s m meth c bs own maxL ret) (X : Stand p l e R s m args below meth c T locs cells slots) {pc : Nat} {ls : Array Slot} {a : Addr} {K K' : String} {y z : MethodName} {index : Nat} {bytes : ByteArray} {maxY : Nat} {retY : Option FieldType} {rm : Room} {Q : Option Value → Heap → List Loc → Prop} {ps : List FieldType} {rr : Option FieldType} {stk : List Value} (w1 : (Cond.methodLink own index y).before a0 Z = true) (w2 : (Cond.declares y).before a0 Z = true) (w3 : (Cond.instanceMethod y).before a0 Z = true) (w4 : (Cond.superclass own y.cls).before a0 Z = true) (w7 : (Cond.selects K' z z).before a0 Z = true) (hz : z.cls = y.cls) (w5 : (Cond.code y bytes maxY retY).before a0 Z = true) (w6 : (Cond.initialized y.cls).before a0 Z = true) (hni : y.name ≠ "<init>") (E : Exa Z h a K) (hd : decode bs pc = .ok (.invokespecial index, 3)) (argsL rest : List Value) (W : Nat) (hM : MetFree l y (head1 [Cond.code y bytes maxY retY] rm) (fun a' U => a' = (.ref a :: argsL).toArray ∧ Z.Warmed39 U.vm ∧ U.heap = h) (fun _ _ _ _ _ => True) (fun _ U o U' => ∃ v L, o = .returned v ∧ Q v U'.heap L ∧ FrameEnd U o U' L rm.cells rm.slots)) (hpd : parseMethodDescriptor y.desc = some ⟨ps, rr⟩) (eT : T.heap = h) (pc' : Nat) (k : ∀ (v : Option Value) (T' : State) (L : List Loc), Stand p l e R s m args below meth c T' (locs ++ L) (cells + rm.cells) (slots + rm.slots) → Q v T'.heap L → Goes p.tables e below G (T'.setTop (mkF m pc' ls (v.toList ++ rest)))) (hy : y.cls ≠ "java/lang/invoke/MethodHandle" ∧ y.cls ≠ "java/lang/invoke/VarHandle" := by decide) (hf : rm.frames + 1 ≤ R.frames := by decide) (hl : W + (maxY + 11) + rm.locals ≤ R.locals := by decide) (hls : ls.size = maxL := by rfl) (hlen : argsL.length = ps.length := by rfl) (hst : stk = argsL.reverse ++ .ref a :: rest := by rfl) (hW : (rest.map fun v => v.category).sum ≤ W := by exact Nat.le_of_eq rfl) (hc : cells + rm.cells ≤ R.cells := by decide) (hs : slots + rm.slots ≤ R.slots := by decide) (hp : pc + 3 = pc' := by rfl) : Goes p.tables e below G (T.setTop (mkF m pc ls stk)) := by
  subst hp hst
  obtain ⟨cell, k0, q1, q2, q3, q4, -⟩ := E
  obtain ⟨k1, q5, -⟩ := C.2.1.alike.2.2 _ _ q3
  have v2 : (Cond.declares y).before args s = true := mvT C.2.1 w2
  have v3 : (Cond.instanceMethod y).before args s = true := mvT C.2.1 w3
  have v4 : (Cond.superclass own y.cls).before args s = true := mvT C.2.1 w4
  have v7 : (Cond.selects K' z z).before args s = true := mvT C.2.1 w7
  obtain ⟨r0, r, hn, hrm, hstatic, hsig⟩ := Cond.declares_spec v2
  obtain ⟨r0', r', hn', hrm', -, habs⟩ := Cond.instanceMethod_spec v3
  cases hn.symm.trans hn'
  cases hrm.symm.trans hrm'
  obtain ⟨cn, dk, kp, hcn, hdk, hkp, hsuper, -, -, hnid⟩ := Cond.superclass_spec C.2.2.2.2.1 v4
  have hcn' := findClass_of_methodNamed hn
  cases hcn.symm.trans hcn'
  obtain ⟨c2, r2, m2, -, -, u3, -, kP, u4, u5⟩ := Cond.selects_spec v7
  have u6 := findClass_of_methodNamed u3
  rw [hz] at u6
  have u7 : m2.cls = r0.cls := Option.some.inj (u6.symm.trans hcn')
  rw [u7] at u4
  cases hkp.symm.trans u4
  have hsame : (Cond.sameMethod y.cls y.cls y.name y.desc).before args s = true := by
    simp [Cond.before, Cond.holds, Cond.value, hcn', State.methodFound?_of_named hn hy, hn, hkp, u5]
  have hsub : s.vm.isSubclass r0.cls r0.cls = true := Jvm.Free.SB.SBLen.isSubclass_self _ _ _ hkp
  have hlen' : argsL.length = r.sig.parameters.length := lenOf hpd hlen _ hsig
  obtain ⟨v, _, ⟨T', L', k', n'⟩, -, X', ⟨L, hQ, l1, l2, l3⟩, st'⟩ := X.specialUpBack C.1 (own := own) (owner := y.cls) (x := y) C.2.2.2.2.1 (mvT C.2.1 w1) hsame hn hrm hstatic habs hni hdk hnid hcn' hsuper hsub (a := a) (cell := cell) (by rw [eT]; exact q1) (by intro c hq; rw [hq] at q4; exact Bool.noConfusion (q4 : true = false)) q5 (backOf (W := W) hM C.2.1 w5 w6 hf hl) (g := mkF m pc ls (argsL.reverse ++ .ref a :: rest)) rfl (by rw [C.2.2.2.1]; exact hls) (Steps.refl _) (argsL := argsL) (rest := rest) hlen' rfl (by show 2 * 0 + _ ≤ _; omega) (hb C.2.2.1 hd) (fun _ _ => ⟨rfl, eT, hc, hs⟩)
  dsimp only [Pt.U, Pt.locs, Pt.cells, Pt.slots] at X' l1 l2 l3 st' hQ
  subst l1 l2 l3
  exact Goes.on (fun t k => st'.trans k) (k v T' L X' hQ)
theorem g_newAE (C : Ctx p Z s m meth c bs own maxL ret) (X : Stand p l e R s m args below meth c T locs cells slots) {pc : Nat} {ls : Array Slot} {st : List Value} {aty : ArrayType} {n : Int32} {cap : Nat} {ad : String} (w : (Cond.arrayClass (newarray.typeOf aty)).before a0 Z = true) (had : "[" ++ (newarray.typeOf aty).toString = ad) (eT : T.heap = h) (hd : decode bs pc = .ok (.newarray aty, 2)) (pc' : Nat) (hn : ¬ n < 0) (hcap : n.toNatClampNeg ≤ cap) (hbig : cap * 8 ≤ 536870912) (hc : cells + 1 ≤ R.cells) (hs : slots + cap ≤ R.slots) (k : ∀ (T' : State) (h' : Heap) (b : Addr) (kd : ClassId), Stand p l e R s m args below meth c T' locs (cells + 1) (slots + cap) → T'.heap = h' → b = h.size → Ext h h' → Arv Z h' b kd (newarray.typeOf aty) n [] (defaultValue (newarray.typeOf aty)) → Exa Z h' b ad → Goes p.tables e below G (T'.setTop (mkF m pc' ls (.ref b :: st)))) (hp : pc + 2 = pc' := by rfl) : Goes p.tables e below G (T.setTop (mkF m pc ls (.int n :: st))) := by
  subst hp
  have hcb : componentBytes (newarray.typeOf aty) ≤ 8 := by cases aty <;> decide
  obtain ⟨cA, kA, comp, h1, h2, h3, X', st'⟩ := X.newarrayPrim C.1 (mvA C.2.1 w) (g := mkF m pc ls (.int n :: st)) rfl (hb C.2.2.1 hd) rfl hn (Nat.le_trans (Nat.mul_le_mul hcap hcb) hbig) hc (by omega)
  subst eT
  rw [C.2.1.alike.findClass] at h1
  obtain ⟨kZ, z1, -⟩ := Vm.findClass_spec h1
  obtain ⟨k', z2, z3⟩ := C.2.1.alike.2.2 _ _ z1
  cases h2.symm.trans z2
  have hkind : kZ.kind = .array comp (newarray.typeOf aty) := by rw [← h3, z3]
  have hN : (T.heap.push (Jvm.RoadKit.newA cA (newarray.typeOf aty) n))[T.heap.size]? = some (Jvm.RoadKit.newA cA (newarray.typeOf aty) n) := by simp
  have A : Arr Z (T.heap.push (Jvm.RoadKit.newA cA (newarray.typeOf aty) n)) T.heap.size (Jvm.RoadKit.newA cA (newarray.typeOf aty) n) (newarray.typeOf aty) := ⟨hN, ⟨by simp [Jvm.RoadKit.newA], kZ, z1, comp, hkind⟩, by simp [Jvm.RoadKit.newA]⟩
  refine Goes.on (fun t k => st' t k) (k _ _ T.heap.size cA (X'.more (Nat.le_refl _) (by omega)) rfl rfl ⟨by show T.heap.size ≤ (T.heap.push _).size; simp, fun a c h => ?_⟩ (Arv.new A hn) ⟨_, kZ, A.1, by rw [← had]; exact h1, z1, rfl, fun q => by rw [hkind] at q; cases q⟩)
  show (T.heap.push _)[a]? = _
  rw [Array.getElem?_push_lt (Array.getElem?_eq_some_iff.mp h).1]; exact (Array.getElem?_eq_getElem _).symm.trans h
theorem fitC_of {a : Addr} {kd : ClassId} {ty : FieldType} {n : Int32} {vs : List Value} {d : Value} {cl : Cell} (A : Arr Z h a cl ty) (H : Has cl vs d) (Gf : ∀ i, i < cl.slots.size → fits ty (vs.getD i d) = true) : FitC Z cl := fun i v hv => by
  have hi : i < cl.slots.size := (Array.getElem?_eq_some_iff.mp hv).1
  have e := H i hi
  rw [hv] at e
  obtain ⟨-, k, hk, comp, hkind⟩ := A.2.1
  have := Gf i hi
  rw [← Option.some.inj e] at this
  simpa [State.fitsSlot, State.slotType?, hk, hkind] using this
theorem g_clone (C : Ctx p Z s m meth c bs own maxL ret) (X : Stand p l e R s m args below meth c T locs cells slots) {pc : Nat} {ls : Array Slot} {st : List Value} {a : Addr} {kd : ClassId} {ty : FieldType} {n : Int32} {vs : List Value} {d : Value} {cap W index : Nat} {ad : String} (w1 : (Cond.methodLink own index ⟨ad, "clone", "()Ljava/lang/Object;"⟩).before a0 Z = true) (w2 : (Cond.sameMethod ad "java/lang/Object" "clone" "()Ljava/lang/Object;").before a0 Z = true) (w3 : (Cond.native ⟨"java/lang/Object", "clone", "()Ljava/lang/Object;"⟩).before a0 Z = true) (w4 : (Cond.instanceMethod ⟨"java/lang/Object", "clone", "()Ljava/lang/Object;"⟩).before a0 Z = true) (w5 : (Cond.selects ad ⟨ad, "clone", "()Ljava/lang/Object;"⟩ ⟨"java/lang/Object", "clone", "()Ljava/lang/Object;"⟩).before a0 Z = true) (w6 : (Cond.castable ad "java/lang/Cloneable").before a0 Z = true) (eT : T.heap = h) (V : Arv Z h a kd ty n vs d) (E : Exa Z h a ad) (hd : decode bs pc = .ok (.invokevirtual index, 3)) (pc' : Nat) (hls : ls.size = maxL) (hf : 1 ≤ R.frames) (hW : (st.map fun v => v.category).sum ≤ W) (hlo : W + 14 ≤ R.locals) (hcap : n.toNatClampNeg ≤ cap) (hc : cells + 1 ≤ R.cells) (hs : slots + cap ≤ R.slots) (k : ∀ (T' : State) (h' : Heap) (b : Addr), Stand p l e R s m args below meth c T' locs (cells + 1) (slots + cap) → T'.heap = h' → b = h.size → Ext h h' → Arv Z h' b kd ty n vs d → Exa Z h' b ad → Goes p.tables e below G (T'.setTop (mkF m pc' ls (.ref b :: st)))) (hp : pc + 3 = pc' := by rfl) : Goes p.tables e below G (T.setTop (mkF m pc ls (.ref a :: st))) := by
  subst hp
  obtain ⟨cl, A, q1, S, q3, H, Gf⟩ := V
  obtain ⟨T', h', X', e', E', A', x', st'⟩ := cloneA X C.1 C.2.1 C.2.2.2.2.1 w1 w2 w3 w4 w5 w6 eT A E (fitC_of (kd := kd) (n := n) A H Gf) (g := mkF m pc ls (.ref a :: st)) rfl (by rw [C.2.2.2.1]; exact hls) rfl (hb C.2.2.1 hd) hf (W := W) (by show 2 * 0 + _ ≤ _; omega) hlo (cap := cap) (by rw [S]; exact hcap) hc hs
  exact Goes.on (fun t k => st' t k) (k T' h' h.size X' e' rfl E' ⟨_, A', q1, S, q3, H, Gf⟩ x')
theorem g_castX (C : Ctx p Z s m meth c bs own maxL ret) (X : Stand p l e R s m args below meth c T locs cells slots) {pc : Nat} {ls : Array Slot} {st : List Value} {a : Addr} {index : Nat} {ad : String} (w1 : (Cond.classLink own index ad).before a0 Z = true) (w2 : (Cond.castable ad ad).before a0 Z = true) (eT : T.heap = h) (E : Exa Z h a ad) (hd : decode bs pc = .ok (.checkcast index, 3)) (pc' : Nat) (k : ∀ (T' : State), Stand p l e R s m args below meth c T' locs cells slots → T'.heap = h → Goes p.tables e below G (T'.setTop (mkF m pc' ls (.ref a :: st)))) (hp : pc + 3 = pc' := by rfl) : Goes p.tables e below G (T.setTop (mkF m pc ls (.ref a :: st))) := by
  subst hp
  obtain ⟨cl, kk, q1, q2, q3, q4, -⟩ := E
  obtain ⟨c1, cC, g1, g2, g3⟩ := Cond.castable_spec w2
  cases g1.symm.trans g2
  cases q2.symm.trans g1
  obtain ⟨T', X', e', st'⟩ := castY X C.1 C.2.1 C.2.2.2.2.1 w1 eT (F := ⟨cl, _, q1, q2, by simp [q4, g3]⟩) (g := mkF m pc ls (.ref a :: st)) rfl rfl (hb C.2.2.1 hd)
  exact Goes.on (fun t k => st' t k) (k T' X' e')
theorem alt_ne {b o x n : Nat} (q : b = o ∨ n ≤ b) (h1 : x ≠ o) (h2 : x < n) : x ≠ b := by omega
theorem alt_born {b o n n0 : Nat} (q : b = o ∨ n ≤ b) (h1 : n0 ≤ o) (h2 : n0 ≤ n) : n0 ≤ b := q.elim (fun q => q ▸ h1) (fun q => Nat.le_trans h2 q)
theorem alt_lift {b o n n0 : Nat} (q : b = o ∨ n ≤ b) (h : n0 ≤ n) : b = o ∨ n0 ≤ b := q.imp id (Nat.le_trans h)
theorem alt_sz {b o n n0 : Nat} (q : b = o ∨ n ≤ b) (h1 : n0 ≤ o) (h : n0 ≤ n) : n0 ≤ b := q.elim (fun q => q ▸ h1) (fun q => Nat.le_trans h q)
theorem alt_in {b o n : Nat} {ws : List Nat} (q : b = o ∨ n ≤ b) (h : o ∈ ws) : b ∈ ws ∨ n ≤ b := q.elim (fun q => Or.inl (by rw [q]; exact h)) Or.inr
theorem alt_safe {EL : List (String × Nat)} {vm : Vm} {b o : Addr} (q : b = o ∨ h.size ≤ b) (h1 : Safe Z EL vm h o) : Safe Z EL vm h b := q.elim (fun q => q ▸ h1) Safe.new
theorem declares_of {y : MethodName} {bytes : ByteArray} {maxY : Nat} {retY : Option FieldType} (w3 : (Cond.instanceMethod y).before a0 Z = true) (w5 : (Cond.code y bytes maxY retY).before a0 Z = true) : (Cond.declares y).before a0 Z = true := by
  obtain ⟨m, meth, hn, hm, hs, -⟩ := Cond.instanceMethod_spec w3
  obtain ⟨methL, cL, hmL, -, -, -, -, -, -, hsigL⟩ := Cond.code_spec hn w5
  cases hm.symm.trans hmL
  simp [Cond.before, Cond.holds, Cond.value, hn, hm, hs, hsigL]
theorem notFace_via {K : String} {y z : MethodName} (h : (Cond.selects K z z).before #[] s = true) (hz : z.cls = y.cls) : NotFace s y := fun r0 h0 => by
  obtain ⟨c2, r2, m2, -, -, u3, -, kP, u4, u5⟩ := Cond.selects_spec h
  have u6 := findClass_of_methodNamed u3
  rw [hz] at u6
  have u7 : m2.cls = r0.cls := Option.some.inj (u6.symm.trans (findClass_of_methodNamed h0))
  rw [u7] at u4
  exact ⟨kP, u4, u5⟩
theorem g_ifnonnullY (C : Ctx p Z s m meth c bs own maxL ret) (X : Stand p l e R s m args below meth c T locs cells slots) {pc : Nat} {ls : Array Slot} {st : List Value} {b : Addr} {o : Int} (hd : decode bs pc = .ok (.ifnonnull o, 3)) (pc' : Nat) (k : Goes p.tables e below G (T.setTop (mkF m pc' ls st))) (ho : 0 ≤ (pc : Int) + o := by decide) (hp : ((pc : Int) + o).toNat = pc' := by decide) : Goes p.tables e below G (T.setTop (mkF m pc ls (.ref b :: st))) :=
  Goes.on (fun _ k => XT.ifnonnullYes X.here C.1 rfl (pc0 := pc) (pc' := pc') rfl (hb C.2.2.1 hd) rfl ho hp k) k
theorem g_acmp_ne (C : Ctx p Z s m meth c bs own maxL ret) (X : Stand p l e R s m args below meth c T locs cells slots) {pc : Nat} {ls : Array Slot} {st : List Value} {x y : Value} {o : Int} (h1 : x.isRef = true) (h2 : y.isRef = true) (hd : decode bs pc = .ok (.if_acmp .ne o, 3)) (pcT pcN : Nat) (hyes : ¬ x = y → Goes p.tables e below G (T.setTop (mkF m pcT ls st))) (hno : x = y → Goes p.tables e below G (T.setTop (mkF m pcN ls st))) (ho : 0 ≤ (pc : Int) + o := by decide) (hp : ((pc : Int) + o).toNat = pcT := by decide) (hq : pc + 3 = pcN := by rfl) : Goes p.tables e below G (T.setTop (mkF m pc ls (y :: x :: st))) := by
  subst hq
  by_cases q : x = y
  · exact Goes.on (fun _ k => XT.acmpNo X.here C.1 rfl (hb C.2.2.1 hd) rfl h1 h2 (by simp [XT.acmp, q]) k) (hno q)
  · exact Goes.on (fun _ k => XT.acmpYes X.here C.1 rfl (pc0 := pc) (pc' := pcT) rfl (hb C.2.2.1 hd) rfl h1 h2 (by simp [XT.acmp, q]) ho hp k) (hyes q)
theorem Exa.ns {x : Addr} {K : String} (E : Exa Z h x K) : ∀ cell : Cell, h[x]? = some cell → cell.vm.isStatics = false := by
  obtain ⟨c1, k1, h1, -, -, h4, -⟩ := E
  intro cell q
  cases h1.symm.trans q; exact h4
theorem Sta.keepN {h' : Heap} {K n d : String} {w : Value} {ws : List Addr} (F : Sta Z h K n d w) (Kp : Keep h h' ws) (q : ∀ x ∈ ws, ∀ cell : Cell, h[x]? = some cell → cell.vm.isStatics = false) : Sta Z h' K n d w := by
  obtain ⟨cf, i, k, f, st, cell, h1, h2, h3, h4, h5, h6, h7⟩ := F
  refine ⟨cf, i, k, f, st, cell, h1, h2, h3, h4, Kp.2.1 st cell h5 (fun r => ?_), h6, h7⟩
  have z := q st r cell h5
  rw [z] at h6; cases h6
theorem g_newA (C : Ctx p Z s m meth c bs own maxL ret) (X : Stand p l e R s m args below meth c T locs cells slots) {pc : Nat} {ls : Array Slot} {st : List Value} {aty : ArrayType} {n : Int32} {cap : Nat} (w : (Cond.arrayClass (newarray.typeOf aty)).before a0 Z = true) (eT : T.heap = h) (hd : decode bs pc = .ok (.newarray aty, 2)) (pc' : Nat) (hn : ¬ n < 0) (hcap : n.toNatClampNeg ≤ cap) (hbig : cap * 8 ≤ 536870912) (hc : cells + 1 ≤ R.cells) (hs : slots + cap ≤ R.slots) (k : ∀ (T' : State) (h' : Heap) (b : Addr) (kd : ClassId), Stand p l e R s m args below meth c T' locs (cells + 1) (slots + cap) → T'.heap = h' → b = h.size → Ext h h' → Arv Z h' b kd (newarray.typeOf aty) n [] (defaultValue (newarray.typeOf aty)) → Goes p.tables e below G (T'.setTop (mkF m pc' ls (.ref b :: st)))) (hp : pc + 2 = pc' := by rfl) : Goes p.tables e below G (T.setTop (mkF m pc ls (.int n :: st))) := by
  subst hp
  obtain ⟨T', h', kd, X', e', E', A', st'⟩ := newP X C.1 C.2.1 w eT (g := mkF m pc ls (.int n :: st)) rfl (hb C.2.2.1 hd) rfl hn hcap hbig hc hs
  exact Goes.on (fun t k => st' t k) (k T' h' h.size kd X' e' rfl E' (Arv.new A' hn))
theorem g_arraylength (C : Ctx p Z s m meth c bs own maxL ret) (X : Stand p l e R s m args below meth c T locs cells slots) {pc : Nat} {ls : Array Slot} {st : List Value} {a : Addr} {kd : ClassId} {ty : FieldType} {n : Int32} {vs : List Value} {d : Value} (eT : T.heap = h) (V : Arv Z h a kd ty n vs d) (hd : decode bs pc = .ok (.arraylength, 1)) (pc' : Nat) (k : Goes p.tables e below G (T.setTop (mkF m pc' ls (.int n :: st)))) (hp : pc + 1 = pc' := by rfl) : Goes p.tables e below G (T.setTop (mkF m pc ls (.ref a :: st))) := by
  subst hp
  obtain ⟨cl, A, q1, S, q3, -⟩ := V
  refine Goes.on (fun t k => X.arraylength C.1 (by rw [eT]; exact A.1) (State.isArrayOf_alike C.2.1.alike A.2.1) (g := mkF m pc ls (.ref a :: st)) rfl rfl (hb C.2.2.1 hd) t (by rw [len_of S q3]; exact k)) k
theorem g_castore (C : Ctx p Z s m meth c bs own maxL ret) (X : Stand p l e R s m args below meth c T locs cells slots) {pc : Nat} {ls : Array Slot} {st : List Value} {a : Addr} {kd : ClassId} {n j : Int32} {x : Int32} {vs : List Value} {d : Value} {i : Nat} (eT : T.heap = h) (V : Arv Z h a kd .char n vs d) (hj : ¬ j < 0 ∧ j < n) (hi : j.toNatClampNeg = i) (hlt : i < vs.length) (hd : decode bs pc = .ok (.castore, 1)) (pc' : Nat) (k : ∀ (T' : State) (h' : Heap), Stand p l e R s m args below meth c T' (locs ++ [⟨a, j.toNatClampNeg⟩]) cells slots → T'.heap = h' → Wr h h' a j.toNatClampNeg (.int (nar .char x)) → Arv Z h' a kd .char n (vs.set i (.int (nar .char x))) d → Goes p.tables e below G (T'.setTop (mkF m pc' ls st))) (hp : pc + 1 = pc' := by rfl) : Goes p.tables e below G (T.setTop (mkF m pc ls (.int x :: .int j :: .ref a :: st))) := by
  subst hp
  obtain ⟨cl, A, q1, S, q3, H, Gf⟩ := V
  obtain ⟨T', h', X', e', W', st'⟩ := stC X C.1 C.2.1 eT A (j := j) (inb_of S hj) (g := mkF m pc ls (.int x :: .int j :: .ref a :: st)) rfl rfl (hb C.2.2.1 hd)
  exact Goes.on (fun t k => st' t k) (k T' h' X' e' W' (Arv.set A q1 S q3 H Gf (fits_nar_char _) W' i hi hlt))
theorem g_bastore (C : Ctx p Z s m meth c bs own maxL ret) (X : Stand p l e R s m args below meth c T locs cells slots) {pc : Nat} {ls : Array Slot} {st : List Value} {a : Addr} {kd : ClassId} {n j : Int32} {x : Int32} {vs : List Value} {d : Value} {i : Nat} (eT : T.heap = h) (V : Arv Z h a kd .byte n vs d) (hj : ¬ j < 0 ∧ j < n) (hi : j.toNatClampNeg = i) (hlt : i < vs.length) (hd : decode bs pc = .ok (.bastore, 1)) (pc' : Nat) (k : ∀ (T' : State) (h' : Heap), Stand p l e R s m args below meth c T' (locs ++ [⟨a, j.toNatClampNeg⟩]) cells slots → T'.heap = h' → Wr h h' a j.toNatClampNeg (.int (nar .byte x)) → Arv Z h' a kd .byte n (vs.set i (.int (nar .byte x))) d → Goes p.tables e below G (T'.setTop (mkF m pc' ls st))) (hp : pc + 1 = pc' := by rfl) : Goes p.tables e below G (T.setTop (mkF m pc ls (.int x :: .int j :: .ref a :: st))) := by
  subst hp
  obtain ⟨cl, A, q1, S, q3, H, Gf⟩ := V
  obtain ⟨T', h', X', e', W', st'⟩ := stB X C.1 C.2.1 eT A (j := j) (inb_of S hj) (g := mkF m pc ls (.int x :: .int j :: .ref a :: st)) rfl rfl (hb C.2.2.1 hd)
  exact Goes.on (fun t k => st' t k) (k T' h' X' e' W' (Arv.set A q1 S q3 H Gf (fits_nar_byte _) W' i hi hlt))
theorem g_lastore (C : Ctx p Z s m meth c bs own maxL ret) (X : Stand p l e R s m args below meth c T locs cells slots) {pc : Nat} {ls : Array Slot} {st : List Value} {a : Addr} {kd : ClassId} {n j : Int32} {x : Int64} {vs : List Value} {d : Value} {i : Nat} (eT : T.heap = h) (V : Arv Z h a kd .long n vs d) (hj : ¬ j < 0 ∧ j < n) (hi : j.toNatClampNeg = i) (hlt : i < vs.length) (hd : decode bs pc = .ok (.lastore, 1)) (pc' : Nat) (k : ∀ (T' : State) (h' : Heap), Stand p l e R s m args below meth c T' (locs ++ [⟨a, j.toNatClampNeg⟩]) cells slots → T'.heap = h' → Wr h h' a j.toNatClampNeg (.long x) → Arv Z h' a kd .long n (vs.set i (.long x)) d → Goes p.tables e below G (T'.setTop (mkF m pc' ls st))) (hp : pc + 1 = pc' := by rfl) : Goes p.tables e below G (T.setTop (mkF m pc ls (.long x :: .int j :: .ref a :: st))) := by
  subst hp
  obtain ⟨cl, A, q1, S, q3, H, Gf⟩ := V
  obtain ⟨T', h', X', e', W', st'⟩ := stJ X C.1 C.2.1 eT A (j := j) (inb_of S hj) (g := mkF m pc ls (.long x :: .int j :: .ref a :: st)) rfl rfl (hb C.2.2.1 hd)
  exact Goes.on (fun t k => st' t k) (k T' h' X' e' W' (Arv.set A q1 S q3 H Gf rfl W' i hi hlt))
theorem g_caload (C : Ctx p Z s m meth c bs own maxL ret) (X : Stand p l e R s m args below meth c T locs cells slots) {pc : Nat} {ls : Array Slot} {st : List Value} {a : Addr} {kd : ClassId} {n j : Int32} {vs : List Value} {d v : Value} (eT : T.heap = h) (V : Arv Z h a kd .char n vs d) (hj : ¬ j < 0 ∧ j < n) (hv : vs.getD j.toNatClampNeg d = v) (hd : decode bs pc = .ok (.caload, 1)) (pc' : Nat) (k : Goes p.tables e below G (T.setTop (mkF m pc' ls (v :: st)))) (hp : pc + 1 = pc' := by rfl) : Goes p.tables e below G (T.setTop (mkF m pc ls (.int j :: .ref a :: st))) := by
  subst hp
  obtain ⟨cl, A, q1, S, q3, H, Gf⟩ := V
  exact Goes.on (fun t k => X.caload C.1 (j := j) (v := v) (by rw [eT]; exact A.1) (State.isArrayOf_alike C.2.1.alike A.2.1) A.2.2 (inb_of S hj) (H.at (inb_of S hj) hv) (g := mkF m pc ls (.int j :: .ref a :: st)) rfl rfl (hb C.2.2.1 hd) t k) k
theorem g_baload (C : Ctx p Z s m meth c bs own maxL ret) (X : Stand p l e R s m args below meth c T locs cells slots) {pc : Nat} {ls : Array Slot} {st : List Value} {a : Addr} {kd : ClassId} {n j : Int32} {vs : List Value} {d v : Value} (eT : T.heap = h) (V : Arv Z h a kd .byte n vs d) (hj : ¬ j < 0 ∧ j < n) (hv : vs.getD j.toNatClampNeg d = v) (hd : decode bs pc = .ok (.baload, 1)) (pc' : Nat) (k : Goes p.tables e below G (T.setTop (mkF m pc' ls (v :: st)))) (hp : pc + 1 = pc' := by rfl) : Goes p.tables e below G (T.setTop (mkF m pc ls (.int j :: .ref a :: st))) := by
  subst hp
  obtain ⟨cl, A, q1, S, q3, H, Gf⟩ := V
  exact Goes.on (fun t k => X.baloadBytes C.1 (j := j) (v := v) (by rw [eT]; exact A.1) (State.isArrayOf_alike C.2.1.alike A.2.1) A.2.2 (inb_of S hj) (H.at (inb_of S hj) hv) (g := mkF m pc ls (.int j :: .ref a :: st)) rfl rfl (hb C.2.2.1 hd) t k) k
theorem g_laload (C : Ctx p Z s m meth c bs own maxL ret) (X : Stand p l e R s m args below meth c T locs cells slots) {pc : Nat} {ls : Array Slot} {st : List Value} {a : Addr} {kd : ClassId} {n j : Int32} {vs : List Value} {d v : Value} (eT : T.heap = h) (V : Arv Z h a kd .long n vs d) (hj : ¬ j < 0 ∧ j < n) (hv : vs.getD j.toNatClampNeg d = v) (hd : decode bs pc = .ok (.laload, 1)) (pc' : Nat) (k : Goes p.tables e below G (T.setTop (mkF m pc' ls (v :: st)))) (hp : pc + 1 = pc' := by rfl) : Goes p.tables e below G (T.setTop (mkF m pc ls (.int j :: .ref a :: st))) := by
  subst hp
  obtain ⟨cl, A, q1, S, q3, H, Gf⟩ := V
  exact Goes.on (fun t k => X.laload C.1 (j := j) (v := v) (by rw [eT]; exact A.1) (State.isArrayOf_alike C.2.1.alike A.2.1) A.2.2 (inb_of S hj) (H.at (inb_of S hj) hv) (g := mkF m pc ls (.int j :: .ref a :: st)) rfl rfl (hb C.2.2.1 hd) t k) k
theorem safe_null {EL : List (String × Nat)} {vm : Vm} {x : Addr} (hal : Z.vm.Alike vm) (F : Fld Z h x "java/lang/String" "value" "[B" .null) (E : Exa Z h x "java/lang/String") : Safe Z EL vm h x := fun B => by
  obtain ⟨pp, -, u, a, -, q, -, Gq, rfl | rfl⟩ := B
  · obtain ⟨cell, cf, k, i, f, f1, f2, f3, f4, f5, f6, f7⟩ := F
    cases (show h[q.sa]? = some q.sC from Gq.ha).symm.trans f1
    obtain ⟨cS, ⟨⟨s1, s2, s3, ⟨cv, kv, iv, s4, s4'⟩, s5, s6, s7, s8, -⟩, -⟩, -⟩ := Gq
    obtain ⟨kv', z4⟩ := ff_back (U := Wst Z vm h) hal s4
    cases f2.symm.trans z4
    rw [s8] at f7; cases f7
  · obtain ⟨cell, k, e1, e2, e3, -, -⟩ := E
    cases (show h[q.sd]? = some q.SA from Gq.hd).symm.trans e1
    obtain ⟨cS, -, -, f, -⟩ := Gq
    have f' : vm.findClass "[B" = some q.SA.cls := f
    rw [hal.findClass] at f'
    obtain ⟨k1, q1, q2⟩ := Vm.findClass_spec f'
    obtain ⟨k2, q3, q4⟩ := Vm.findClass_spec e2
    cases q1.symm.trans q3
    exact absurd (q2.symm.trans q4) (by decide)
theorem safe_arv {EL : List (String × Nat)} {vm : Vm} {x : Addr} {kd : ClassId} {ty : FieldType} {n : Int32} {vs : List Value} {d : Value} (hal : Z.vm.Alike vm) (V : Arv Z h x kd ty n vs d) (ht : ty ≠ .byte) : Safe Z EL vm h x := by
  obtain ⟨cl, A, -⟩ := V
  exact Safe.arr hal A ht
theorem body_ofH {EL : List (String × Nat)} {y : MethodName} {bytes : ByteArray} {ws : List Cond} {as' : Array Value} {h0 : Heap} {Q : Option Value → Heap → List Loc → Prop} (hplain : plainFor y = true)
    (H : ∀ p e s m below meth c s₁ G, Ctx p Z (s.setVm s.vm) m meth c bytes y.cls maxL ret → meth.name = y.name → (s.setVm s.vm).methodNamed? y = some m → Stand p l e R (s.setVm s.vm) m as' below meth c s₁ [] 0 0 → s₁.heap = h0 → s.heap = h0 → s.Since s.vm 0 → CHv Z EL s.vm h0 → CHr Z EL s.vm h0 s.vm h0 →
      (∀ (v : Option Value) (L : List Loc) (T' : State), Q v T'.heap L → CHr Z EL s.vm h0 T'.vm T'.heap → ReturnedEndW s (.returned v) T' L R.cells R.slots → G (.returned v) T') →
      Goes p.tables e below G (s₁.setTop (entryFrame m as' maxL))) :
    MetFree l y (head1 (Cond.code y bytes maxL ret :: ws) R) (fun a U => a = as' ∧ Z.Warmed39 U.vm ∧ U.heap = h0 ∧ CHv Z EL U.vm h0) (fun _ _ _ _ _ => True) (fun _ U o U' => ∃ v L, o = .returned v ∧ Q v U'.heap L ∧ CHr Z EL U.vm U.heap U'.vm U'.heap ∧ ReturnedEndW U o U' L R.cells R.slots) := by
  refine MetFree.of_bodySF hplain hisR ?_
  intro p e s m args below meth c s₁ Bd hml0 hP hK
  obtain ⟨rfl, hZ, hh, hC⟩ := hP
  exact H p e s m below meth c s₁ _ ⟨Bd.exec, hZ, Bd.bytes, hml0, findClass_of_methodNamed Bd.named, Bd.returns, BodyLoose.notSynchronized Bd⟩ (name_of_methodNamed Bd.named Bd.method).1 Bd.named (Stand.of_body Bd) (by rw [← hh, Bd.state]; rfl) hh ((State.WarmedH.refl s).since 0) hC (CHr.refl hC)
    (fun v L T' hQ hR hE => ⟨v, L, rfl, hQ, by rw [hh]; exact hR, hE⟩)
theorem g_ldcCH {EL : List (String × Nat)} {vm0 : Vm} (C : Ctx p Z (s.setVm vm0) m meth c bs own maxL ret) (X : Stand p l e R (s.setVm vm0) m args below meth c T locs cells slots) {pc : Nat} {ls : Array Slot} {st : List Value} {text : String} {index k0 n : Nat} (w : (Cond.stringLink own index text).before a0 Z = true) (wS : ∀ a ∈ Bundle.stringAtoms, a.before a0 Z = true) (eT : T.heap = h) (hS : s.Since vm0 k0) (hk : k0 ≤ h.size) (hEL : EW Z a0 EL) (hmem : (own, index) ∈ EL) (H : CHv Z EL vm0 h) {vs : List Value} {z : Int32} (ht : (∀ c ∈ text.toList, c.toNat < 256) ∧ text.toList.map (fun c => Value.int (Jvm.Lit.byteI c.toNat.toUInt16)) = vs) (hz : ¬ z < 0) (hzl : z.toNatClampNeg = vs.length) (hd : decode bs pc = .ok (.ldc index, 2)) (pc' : Nat) (hn : 4 * text.toList.length ≤ n) (hbig : n ≤ 536870912) (hc : cells + 2 ≤ R.cells) (hl : slots + (n + 4) ≤ R.slots) (k : ∀ (b : Addr) (T' : State) (h' : Heap) (k1 : Nat) (b2 : Addr) (kd : ClassId), Ctx p Z (s.setVm T'.vm) m meth c bs own maxL ret → Stand p l e R (s.setVm T'.vm) m args below meth c T' locs (cells + 2) (slots + (n + 4)) → T'.heap = h' → Ext h h' → s.Since T'.vm k1 → k1 ≤ h'.size →
      Exa Z h' b "java/lang/String" → Fld Z h' b "java/lang/String" "coder" "B" (.int 0) → Fld Z h' b "java/lang/String" "value" "[B" (.ref b2) → Arv Z h' b2 kd .byte z vs (.int 0) → CHr Z EL vm0 h T'.vm h' → (∀ x, Safe Z EL T'.vm h' x → x ≠ b ∧ x ≠ b2) → Goes p.tables e below G (T'.setTop (mkF m pc' ls (.ref b :: st)))) (hp : pc + 2 = pc' := by rfl) : Goes p.tables e below G (T.setTop (mkF m pc ls st)) := by
  subst hp
  obtain ⟨b, T', h', k1, b2, kd, X', e', E', hS', hk', hZ', hown', f1, f2, f3, f4, -, -, A, -, Sf, st'⟩ := ldcCH X C.1 C.2.1 C.2.2.2.2.1 w wS eT hS hk hEL hmem H ht hz hzl (g := mkF m pc ls st) rfl (hb C.2.2.1 hd) hn hbig hc hl
  exact Goes.on (fun t k => st' t k) (k b T' h' k1 b2 kd ⟨C.1, hZ', C.2.2.1, C.2.2.2.1, hown', C.2.2.2.2.2⟩ X' e' E' hS' hk' f1 f2 f3 f4 A Sf)
theorem g_retNH {t : FieldType} {EL : List (String × Nat)} {vm0 : Vm} {k0 : Nat} {h0 : Heap} (C : Ctx p Z (s.setVm vm0) m meth c bs own maxL (some t)) (X : Stand p l e R (s.setVm vm0) m args below meth c T locs cells slots) {Q : Option Value → Heap → List Loc → Prop} (K : ∀ (v : Option Value) (L : List Loc) (T' : State), Q v T'.heap L → CHr Z EL s.vm h0 T'.vm T'.heap → ReturnedEndW s (.returned v) T' L R.cells R.slots → G (.returned v) T') (hS : s.Since vm0 k0) (hk : k0 ≤ h.size) (hEL : EW Z a0 EL) (H : CHv Z EL vm0 h) (Rr : CHr Z EL s.vm h0 vm0 h) {pc : Nat} {ls : Array Slot} {rest : List Value} {z : Int32} (ht : t = .boolean ∨ t = .byte ∨ t = .char ∨ t = .short) (hd : decode bs pc = .ok (.ireturn, 1)) (hc : cells ≤ R.cells) (hs : slots ≤ R.slots) (eT : T.heap = h) (hQ : Q (some (.int (nar t z))) h locs) : Goes p.tables e below G (T.setTop (mkF m pc ls (.int z :: rest))) := by
  have hlk : meth.locks = false := C.2.2.2.2.2.2
  obtain ⟨fs, hr, hrun, hended, hE⟩ := X.leaveW hS (by rw [eT]; exact hk) (v := some (.int (nar t z))) (fun q => by rw [C.2.2.2.2.2.1] at q; cases q) hlk
  refine ⟨_, _, ?_, hrun, hended, K _ locs _ (by show Q _ T.heap locs; rw [eT]; exact hQ) (by show CHr Z EL s.vm h0 T.vm T.heap; rw [eT]; exact Rr.trans (CHv.at X C.2.1 hEL H)) ⟨hE.1, hE.2.1, hE.2.2.1, hE.2.2.2.mono hc hs⟩⟩
  exact retN X C.1 C.2.2.2.2.2.1 ht (hb C.2.2.1 hd) hr
theorem g_retAH {t : FieldType} {EL : List (String × Nat)} {vm0 : Vm} {k0 : Nat} {h0 : Heap} (C : Ctx p Z (s.setVm vm0) m meth c bs own maxL (some t)) (X : Stand p l e R (s.setVm vm0) m args below meth c T locs cells slots) {Q : Option Value → Heap → List Loc → Prop} (K : ∀ (v : Option Value) (L : List Loc) (T' : State), Q v T'.heap L → CHr Z EL s.vm h0 T'.vm T'.heap → ReturnedEndW s (.returned v) T' L R.cells R.slots → G (.returned v) T') (hS : s.Since vm0 k0) (hk : k0 ≤ h.size) (hEL : EW Z a0 EL) (H : CHv Z EL vm0 h) (Rr : CHr Z EL s.vm h0 vm0 h) {pc : Nat} {ls : Array Slot} {rest : List Value} {w : Value} (ht : t.isReference = true) (hn : narrow t w = w) (hw : w.isRef = true) (hd : decode bs pc = .ok (.areturn, 1)) (hc : cells ≤ R.cells) (hs : slots ≤ R.slots) (eT : T.heap = h) (hQ : Q (some w) h locs) : Goes p.tables e below G (T.setTop (mkF m pc ls (w :: rest))) := by
  have hlk : meth.locks = false := C.2.2.2.2.2.2
  obtain ⟨fs, hr, hrun, hended, hE⟩ := X.leaveW hS (by rw [eT]; exact hk) (v := some w) (fun q => by rw [C.2.2.2.2.2.1] at q; cases q) hlk
  refine ⟨_, _, ?_, hrun, hended, K _ locs _ (by show Q _ T.heap locs; rw [eT]; exact hQ) (by show CHr Z EL s.vm h0 T.vm T.heap; rw [eT]; exact Rr.trans (CHv.at X C.2.1 hEL H)) ⟨hE.1, hE.2.1, hE.2.2.1, hE.2.2.2.mono hc hs⟩⟩
  exact retOut X C.1 (w := w) (i := .areturn) C.2.2.2.2.2.1 hn (Or.inr (Or.inr (Or.inr (Or.inr ⟨rfl, ht, hw⟩)))) (hb C.2.2.1 hd) hr
theorem g_retVH {EL : List (String × Nat)} {vm0 : Vm} {k0 : Nat} {h0 : Heap} (C : Ctx p Z (s.setVm vm0) m meth c bs own maxL (none)) (X : Stand p l e R (s.setVm vm0) m args below meth c T locs cells slots) {Q : Option Value → Heap → List Loc → Prop} (K : ∀ (v : Option Value) (L : List Loc) (T' : State), Q v T'.heap L → CHr Z EL s.vm h0 T'.vm T'.heap → ReturnedEndW s (.returned v) T' L R.cells R.slots → G (.returned v) T') (hS : s.Since vm0 k0) (hk : k0 ≤ h.size) (hEL : EW Z a0 EL) (H : CHv Z EL vm0 h) (Rr : CHr Z EL s.vm h0 vm0 h) {pc : Nat} {ls : Array Slot}  (hd : decode bs pc = .ok (.return_, 1)) (hc : cells ≤ R.cells) (hs : slots ≤ R.slots) (eT : T.heap = h) (hQ : Q (none) h locs) : Goes p.tables e below G (T.setTop (mkF m pc ls [])) := by
  have hlk : meth.locks = false := C.2.2.2.2.2.2
  obtain ⟨fs, hr, hrun, hended, hE⟩ := X.leaveW hS (by rw [eT]; exact hk) (v := none) (fun _ => rfl) hlk
  refine ⟨_, _, ?_, hrun, hended, K _ locs _ (by show Q _ T.heap locs; rw [eT]; exact hQ) (by show CHr Z EL s.vm h0 T.vm T.heap; rw [eT]; exact Rr.trans (CHv.at X C.2.1 hEL H)) ⟨hE.1, hE.2.1, hE.2.2.1, hE.2.2.2.mono hc hs⟩⟩
  exact X.returnOut C.1 C.2.2.2.2.2.1 (hb C.2.2.1 hd) hr
theorem g_callSH {EL : List (String × Nat)} {vm0 : Vm} {k0 : Nat} (C : Ctx p Z (s.setVm vm0) m meth c bs own maxL ret) (X : Stand p l e R (s.setVm vm0) m args below meth c T locs cells slots) (hS : s.Since vm0 k0) (hk : k0 ≤ h.size) (hEL : EW Z a0 EL) (H : CHv Z EL vm0 h) {pc : Nat} {ls : Array Slot} {y : MethodName} {index : Nat} {bytes : ByteArray} {maxY : Nat} {retY : Option FieldType} {rm : Room} {Q : Option Value → Heap → List Loc → Prop} {ps : List FieldType} {rr : Option FieldType} {stk : List Value} (w1 : (Cond.methodLink own index y).before a0 Z = true) (w2 : (Cond.static y).before a0 Z = true) (w3 : (Cond.initialized y.cls).before a0 Z = true) (w4 : (Cond.code y bytes maxY retY).before a0 Z = true) (hd : decode bs pc = .ok (.invokestatic index, 3)) (argsL rest : List Value) (W : Nat) (hM : MetFree l y (head1 [Cond.code y bytes maxY retY] rm) (fun a' U => a' = argsL.toArray ∧ Z.Warmed39 U.vm ∧ U.heap = h ∧ CHv Z EL U.vm h) (fun _ _ _ _ _ => True) (fun _ U o U' => ∃ v L, o = .returned v ∧ Q v U'.heap L ∧ CHr Z EL U.vm U.heap U'.vm U'.heap ∧ ReturnedEndW U o U' L rm.cells rm.slots)) (hpd : parseMethodDescriptor y.desc = some ⟨ps, rr⟩) (eT : T.heap = h) (pc' : Nat) (k : ∀ (v : Option Value) (T' : State) (L : List Loc), Ctx p Z (s.setVm T'.vm) m meth c bs own maxL ret → Stand p l e R (s.setVm T'.vm) m args below meth c T' (locs ++ L) (cells + rm.cells) (slots + rm.slots) → Q v T'.heap L → s.Since T'.vm T'.heap.size → CHr Z EL vm0 h T'.vm T'.heap → Goes p.tables e below G (T'.setTop (mkF m pc' ls (v.toList ++ rest)))) (hy : y.cls ≠ "java/lang/invoke/MethodHandle" ∧ y.cls ≠ "java/lang/invoke/VarHandle" := by decide) (hf : rm.frames + 1 ≤ R.frames := by decide) (hl : W + (maxY + 11) + rm.locals ≤ R.locals := by decide) (hls : ls.size = maxL := by rfl) (hlen : argsL.length = ps.length := by rfl) (hst : stk = argsL.reverse ++ rest := by rfl) (hW : (rest.map fun v => v.category).sum ≤ W := by exact Nat.le_of_eq rfl) (hc : cells + rm.cells ≤ R.cells := by decide) (hs : slots + rm.slots ≤ R.slots := by decide) (hp : pc + 3 = pc' := by rfl) : Goes p.tables e below G (T.setTop (mkF m pc ls stk)) := by
  subst hp hst
  obtain ⟨v, _, ⟨T', L', k', n'⟩, -, X', hS2, hgr, ⟨L, hQ, l1, l2, l3, A⟩, st'⟩ := callSS X C.1 (y := y) C.2.2.2.2.1 (mvT C.2.1 w1) (mvT C.2.1 w2) (mvT C.2.1 w3) (mvT C.2.1 w4) hy (backOfSH (W := W) hM C.2.1 w4 w3 hf hl hEL H) (g := mkF m pc ls (argsL.reverse ++ rest)) rfl (by rw [C.2.2.2.1]; exact hls) (argsL := argsL) (rest := rest) (lenOf hpd hlen) rfl (by show 2 * 0 + _ ≤ _; omega) (hb C.2.2.1 hd) (fun _ _ => ⟨rfl, eT, hc, hs⟩)
  dsimp only [Pt.U, Pt.locs, Pt.cells, Pt.slots] at X' l1 l2 l3 st' hQ hS2 hgr A
  subst l1 l2 l3
  have hZ' : Z.Warmed39 (s.setVm T'.vm).vm := State.Warmed39.trans (t := s.setVm vm0) C.2.1 hS2.1
  have hown' : (s.setVm T'.vm).vm.findClass own = some m.cls := by rw [show (s.setVm T'.vm).vm = T'.vm from rfl, hS2.1.alike.findClass]; exact C.2.2.2.2.1
  exact Goes.on (fun t k => st'.trans k) (k v T' L ⟨C.1, hZ', C.2.2.1, C.2.2.2.1, hown', C.2.2.2.2.2⟩ X' hQ (foldS hS (by rw [eT]; exact hk) hS2 hgr) A)
theorem g_callIH {EL : List (String × Nat)} {vm0 : Vm} {k0 : Nat} (C : Ctx p Z (s.setVm vm0) m meth c bs own maxL ret) (X : Stand p l e R (s.setVm vm0) m args below meth c T locs cells slots) (hS : s.Since vm0 k0) (hk : k0 ≤ h.size) (hEL : EW Z a0 EL) (H : CHv Z EL vm0 h) {pc : Nat} {ls : Array Slot} {a : Addr} {y : MethodName} {index : Nat} {bytes : ByteArray} {maxY : Nat} {rm : Room} {Q : Option Value → Heap → List Loc → Prop} {ps : List FieldType} {rr : Option FieldType} {stk : List Value} (hn : y.name = "<init>") (w1 : (Cond.methodLink own index y).before a0 Z = true) (w2 : (Cond.instanceMethod y).before a0 Z = true) (w3 : (Cond.initialized y.cls).before a0 Z = true) (w4 : (Cond.code y bytes maxY none).before a0 Z = true) (hd : decode bs pc = .ok (.invokespecial index, 3)) (argsL rest : List Value) (W : Nat) (hM : MetFree l y (head1 [Cond.code y bytes maxY none] rm) (fun a' U => a' = (.ref a :: argsL).toArray ∧ Z.Warmed39 U.vm ∧ U.heap = h ∧ CHv Z EL U.vm h) (fun _ _ _ _ _ => True) (fun _ U o U' => ∃ v L, o = .returned v ∧ Q v U'.heap L ∧ CHr Z EL U.vm U.heap U'.vm U'.heap ∧ ReturnedEndW U o U' L rm.cells rm.slots)) (hpd : parseMethodDescriptor y.desc = some ⟨ps, rr⟩) (eT : T.heap = h) (pc' : Nat) (k : ∀ (v : Option Value) (T' : State) (L : List Loc), Ctx p Z (s.setVm T'.vm) m meth c bs own maxL ret → Stand p l e R (s.setVm T'.vm) m args below meth c T' (locs ++ L) (cells + rm.cells) (slots + rm.slots) → Q v T'.heap L → s.Since T'.vm T'.heap.size → CHr Z EL vm0 h T'.vm T'.heap → Goes p.tables e below G (T'.setTop (mkF m pc' ls (v.toList ++ rest)))) (hy : y.cls ≠ "java/lang/invoke/MethodHandle" ∧ y.cls ≠ "java/lang/invoke/VarHandle" := by decide) (hf : rm.frames + 1 ≤ R.frames := by decide) (hl : W + (maxY + 11) + rm.locals ≤ R.locals := by decide) (hls : ls.size = maxL := by rfl) (hlen : argsL.length = ps.length := by rfl) (hst : stk = argsL.reverse ++ .ref a :: rest := by rfl) (hW : (rest.map fun v => v.category).sum ≤ W := by exact Nat.le_of_eq rfl) (hc : cells + rm.cells ≤ R.cells := by decide) (hs : slots + rm.slots ≤ R.slots := by decide) (hp : pc + 3 = pc' := by rfl) : Goes p.tables e below G (T.setTop (mkF m pc ls stk)) := by
  subst hp hst
  obtain ⟨v, _, ⟨T', L', k', n'⟩, -, X', hS2, hgr, ⟨L, hQ, l1, l2, l3, A⟩, st'⟩ := X.specialBackS C.1 (y := y) hn C.2.2.2.2.1 (mvT C.2.1 w1) (mvT C.2.1 w2) (mvT C.2.1 w4) hy (backOfSH (W := W) hM C.2.1 w4 w3 hf hl hEL H) (g := mkF m pc ls (argsL.reverse ++ .ref a :: rest)) rfl (by rw [C.2.2.2.1]; exact hls) (Steps.refl _) (a := a) (argsL := argsL) (rest := rest) (lenOf hpd hlen) rfl (by show 2 * 0 + _ ≤ _; omega) (hb C.2.2.1 hd) (fun _ _ => ⟨rfl, eT, hc, hs⟩)
  dsimp only [Pt.U, Pt.locs, Pt.cells, Pt.slots] at X' l1 l2 l3 st' hQ hS2 hgr A
  subst l1 l2 l3
  have hZ' : Z.Warmed39 (s.setVm T'.vm).vm := State.Warmed39.trans (t := s.setVm vm0) C.2.1 hS2.1
  have hown' : (s.setVm T'.vm).vm.findClass own = some m.cls := by rw [show (s.setVm T'.vm).vm = T'.vm from rfl, hS2.1.alike.findClass]; exact C.2.2.2.2.1
  exact Goes.on (fun t k => st'.trans k) (k v T' L ⟨C.1, hZ', C.2.2.1, C.2.2.2.1, hown', C.2.2.2.2.2⟩ X' hQ (foldS hS (by rw [eT]; exact hk) hS2 hgr) A)
theorem g_acopy (C : Ctx p Z s m meth c bs own maxL ret) (X : Stand p l e R s m args below meth c T locs cells slots) {pc : Nat} {ls : Array Slot} {st : List Value} {index n0 : Nat} {a b : Addr} {k1 k2 : ClassId} {ty : FieldType} {z z' sp dp nn : Int32} {vs vd us ur : List Value} {dv dd : Value} (w1 : (Cond.methodLink own index Jvm.Stand.acN).before a0 Z = true) (w2 : (Cond.native Jvm.Stand.acN).before a0 Z = true) (w3 : (Cond.static Jvm.Stand.acN).before a0 Z = true) (w4 : (Cond.initialized "java/lang/System").before a0 Z = true) (eT : T.heap = h) (A : Arv Z h a k1 ty z vs dv) (B : Arv Z h b k2 ty z' vd dd) (hty : refKind ty = false) (h1 : ¬ sp < 0) (h2 : ¬ dp < 0) (h3 : ¬ nn < 0) (h4 : sp.toNatClampNeg + nn.toNatClampNeg ≤ z.toNatClampNeg) (h5 : dp.toNatClampNeg + nn.toNatClampNeg ≤ z'.toNatClampNeg) (hus : (List.range nn.toNatClampNeg).map (fun i => vs.getD (sp.toNatClampNeg + i) dv) = us) (hl : dp.toNatClampNeg + nn.toNatClampNeg ≤ vd.length) (hur : vd.take dp.toNatClampNeg ++ us ++ vd.drop (dp.toNatClampNeg + nn.toNatClampNeg) = ur) (N : Fr n0 locs) (ge : n0 ≤ b) (hls : ls.size = maxL) (hd : decode bs pc = .ok (.invokestatic index, 3)) (pc' : Nat) (hf : 1 ≤ R.frames) {W : Nat} (hW : (st.map fun v => v.category).sum ≤ W) (hlo : W + (nativeFrameWords "java/lang/System" "arraycopy" 5 + 11) ≤ R.locals) (k : ∀ (T' : State) (h' : Heap) (L : List Loc), Stand p l e R s m args below meth c T' L cells slots → T'.heap = h' → Fr n0 L → Keep h h' [b] → Arv Z h' b k2 ty z' ur dd → Goes p.tables e below G (T'.setTop (mkF m pc' ls st))) (hp : pc + 3 = pc' := by rfl) : Goes p.tables e below G (T.setTop (mkF m pc ls (.int nn :: .int dp :: .ref b :: .int sp :: .ref a :: st))) := by
  subst hp hur
  obtain ⟨T', h', L, X', e', N', K', V', st'⟩ := cpA X C.1 C.2.1 C.2.2.2.2.1 w1 w2 w3 w4 eT A B (Or.inl ⟨rfl, hty⟩) h1 h2 h3 h4 h5 hus.symm hl N ge (g := mkF m pc ls (.int nn :: .int dp :: .ref b :: .int sp :: .ref a :: st)) rfl (by rw [C.2.2.2.1]; exact hls) rfl (hb C.2.2.1 hd) hf (W := W) (by show 2 * 0 + _ ≤ _; omega) hlo
  exact Goes.on (fun t k => st' t k) (k T' h' L X' e' N' K' V')
abbrev OwnQ (w : Option Value) (h0 : Heap) (n0 : Nat) (v : Option Value) (h : Heap) (L : List Loc) : Prop := v = w ∧ Fr n0 L ∧ h = h0
abbrev CallS (own : String) (index : Nat) (y : MethodName) (bytes : ByteArray) (maxY : Nat) (retY : Option FieldType) (a0 : Array Value) (Z : State) : Prop := (Cond.methodLink own index y).before a0 Z = true ∧ (Cond.static y).before a0 Z = true ∧ (Cond.initialized y.cls).before a0 Z = true ∧ (Cond.code y bytes maxY retY).before a0 Z = true
abbrev CallV (own : String) (index : Nat) (y : MethodName) (K : String) (bytes : ByteArray) (maxY : Nat) (retY : Option FieldType) (a0 : Array Value) (Z : State) : Prop := (Cond.methodLink own index y).before a0 Z = true ∧ (Cond.declares y).before a0 Z = true ∧ (Cond.selects K y y).before a0 Z = true ∧ (Cond.instanceMethod y).before a0 Z = true ∧ (Cond.code y bytes maxY retY).before a0 Z = true ∧ (Cond.initialized y.cls).before a0 Z = true
theorem g_callS0 (C : Ctx p Z s m meth c bs own maxL ret) (X : Stand p l e R s m args below meth c T locs cells slots) {pc : Nat} {ls : Array Slot} {y : MethodName} {index : Nat} {bytes : ByteArray} {maxY : Nat} {retY : Option FieldType} {rm : Room} {ps : List FieldType} {rr : Option FieldType} {stk : List Value} {n0 : Nat} {w : Value} (B : CallS own index y bytes maxY retY a0 Z) (hd : decode bs pc = .ok (.invokestatic index, 3)) (argsL rest : List Value) (W : Nat) (hM : MetFree l y (head1 [Cond.code y bytes maxY retY] rm) (fun a' U => a' = argsL.toArray ∧ Z.Warmed39 U.vm ∧ U.heap = h) (fun _ _ _ _ _ => True) (fun _ U o U' => ∃ v L, o = .returned v ∧ OwnQ (some w) h n0 v U'.heap L ∧ FrameEnd U o U' L rm.cells rm.slots)) (N : Fr n0 locs) (hpd : parseMethodDescriptor y.desc = some ⟨ps, rr⟩) (eT : T.heap = h) (pc' : Nat) (k : ∀ (T' : State) (L : List Loc), Stand p l e R s m args below meth c T' (locs ++ L) (cells + rm.cells) (slots + rm.slots) → Fr n0 (locs ++ L) → T'.heap = h → Goes p.tables e below G (T'.setTop (mkF m pc' ls (w :: rest)))) (hy : y.cls ≠ "java/lang/invoke/MethodHandle" ∧ y.cls ≠ "java/lang/invoke/VarHandle" := by decide) (hf : rm.frames + 1 ≤ R.frames := by decide) (hl : W + (maxY + 11) + rm.locals ≤ R.locals := by decide) (hls : ls.size = maxL := by rfl) (hlen : argsL.length = ps.length := by rfl) (hst : stk = argsL.reverse ++ rest := by rfl) (hW : (rest.map fun v => v.category).sum ≤ W := by exact Nat.le_of_eq rfl) (hc : cells + rm.cells ≤ R.cells := by decide) (hs : slots + rm.slots ≤ R.slots := by decide) (hp : pc + 3 = pc' := by rfl) : Goes p.tables e below G (T.setTop (mkF m pc ls stk)) :=
  g_callS C X B.1 B.2.1 B.2.2.1 B.2.2.2 hd argsL rest W hM hpd eT pc' (fun v T' L X' hQ => by obtain ⟨rfl, Nq, eq⟩ := hQ; exact k T' L X' (Fr.app N Nq) eq) hy hf hl hls hlen hst hW hc hs hp
theorem g_callSn (C : Ctx p Z s m meth c bs own maxL ret) (X : Stand p l e R s m args below meth c T locs cells slots) {pc : Nat} {ls : Array Slot} {y : MethodName} {index : Nat} {bytes : ByteArray} {maxY : Nat} {retY : Option FieldType} {rm : Room} {ps : List FieldType} {rr : Option FieldType} {stk : List Value} {n0 : Nat} (B : CallS own index y bytes maxY retY a0 Z) (hd : decode bs pc = .ok (.invokestatic index, 3)) (argsL rest : List Value) (W : Nat) (hM : MetFree l y (head1 [Cond.code y bytes maxY retY] rm) (fun a' U => a' = argsL.toArray ∧ Z.Warmed39 U.vm ∧ U.heap = h) (fun _ _ _ _ _ => True) (fun _ U o U' => ∃ v L, o = .returned v ∧ OwnQ none h n0 v U'.heap L ∧ FrameEnd U o U' L rm.cells rm.slots)) (N : Fr n0 locs) (hpd : parseMethodDescriptor y.desc = some ⟨ps, rr⟩) (eT : T.heap = h) (pc' : Nat) (k : ∀ (T' : State) (L : List Loc), Stand p l e R s m args below meth c T' (locs ++ L) (cells + rm.cells) (slots + rm.slots) → Fr n0 (locs ++ L) → T'.heap = h → Goes p.tables e below G (T'.setTop (mkF m pc' ls (rest)))) (hy : y.cls ≠ "java/lang/invoke/MethodHandle" ∧ y.cls ≠ "java/lang/invoke/VarHandle" := by decide) (hf : rm.frames + 1 ≤ R.frames := by decide) (hl : W + (maxY + 11) + rm.locals ≤ R.locals := by decide) (hls : ls.size = maxL := by rfl) (hlen : argsL.length = ps.length := by rfl) (hst : stk = argsL.reverse ++ rest := by rfl) (hW : (rest.map fun v => v.category).sum ≤ W := by exact Nat.le_of_eq rfl) (hc : cells + rm.cells ≤ R.cells := by decide) (hs : slots + rm.slots ≤ R.slots := by decide) (hp : pc + 3 = pc' := by rfl) : Goes p.tables e below G (T.setTop (mkF m pc ls stk)) :=
  g_callS C X B.1 B.2.1 B.2.2.1 B.2.2.2 hd argsL rest W hM hpd eT pc' (fun v T' L X' hQ => by obtain ⟨rfl, Nq, eq⟩ := hQ; exact k T' L X' (Fr.app N Nq) eq) hy hf hl hls hlen hst hW hc hs hp
theorem g_callV0 (C : Ctx p Z s m meth c bs own maxL ret) (X : Stand p l e R s m args below meth c T locs cells slots) {pc : Nat} {ls : Array Slot} {y : MethodName} {index : Nat} {bytes : ByteArray} {maxY : Nat} {retY : Option FieldType} {rm : Room} {ps : List FieldType} {rr : Option FieldType} {stk : List Value} {n0 : Nat} {a : Addr} {K : String} {w : Value} (B : CallV own index y K bytes maxY retY a0 Z) (E : Exa Z h a K) (hd : decode bs pc = .ok (.invokevirtual index, 3)) (argsL rest : List Value) (W : Nat) (hM : MetFree l y (head1 [Cond.code y bytes maxY retY] rm) (fun a' U => a' = (.ref a :: argsL).toArray ∧ Z.Warmed39 U.vm ∧ U.heap = h) (fun _ _ _ _ _ => True) (fun _ U o U' => ∃ v L, o = .returned v ∧ OwnQ (some w) h n0 v U'.heap L ∧ FrameEnd U o U' L rm.cells rm.slots)) (N : Fr n0 locs) (hpd : parseMethodDescriptor y.desc = some ⟨ps, rr⟩) (eT : T.heap = h) (pc' : Nat) (k : ∀ (T' : State) (L : List Loc), Stand p l e R s m args below meth c T' (locs ++ L) (cells + rm.cells) (slots + rm.slots) → Fr n0 (locs ++ L) → T'.heap = h → Goes p.tables e below G (T'.setTop (mkF m pc' ls (w :: rest)))) (hy : y.cls ≠ "java/lang/invoke/MethodHandle" ∧ y.cls ≠ "java/lang/invoke/VarHandle" := by decide) (hf : rm.frames + 1 ≤ R.frames := by decide) (hl : W + (maxY + 11) + rm.locals ≤ R.locals := by decide) (hls : ls.size = maxL := by rfl) (hlen : argsL.length = ps.length := by rfl) (hst : stk = argsL.reverse ++ .ref a :: rest := by rfl) (hW : (rest.map fun v => v.category).sum ≤ W := by exact Nat.le_of_eq rfl) (hc : cells + rm.cells ≤ R.cells := by decide) (hs : slots + rm.slots ≤ R.slots := by decide) (hp : pc + 3 = pc' := by rfl) : Goes p.tables e below G (T.setTop (mkF m pc ls stk)) :=
  g_callV C X B.1 B.2.1 (notFace_of_selects (args := #[]) (mvT C.2.1 B.2.2.1)) B.2.2.1 B.2.2.2.1 B.2.2.2.2.1 B.2.2.2.2.2 E hd argsL rest W hM hpd eT pc' (fun v T' L X' hQ => by obtain ⟨rfl, Nq, eq⟩ := hQ; exact k T' L X' (Fr.app N Nq) eq) hy hf hl hls hlen hst hW hc hs hp
theorem g_callVn (C : Ctx p Z s m meth c bs own maxL ret) (X : Stand p l e R s m args below meth c T locs cells slots) {pc : Nat} {ls : Array Slot} {y : MethodName} {index : Nat} {bytes : ByteArray} {maxY : Nat} {retY : Option FieldType} {rm : Room} {ps : List FieldType} {rr : Option FieldType} {stk : List Value} {n0 : Nat} {a : Addr} {K : String} (B : CallV own index y K bytes maxY retY a0 Z) (E : Exa Z h a K) (hd : decode bs pc = .ok (.invokevirtual index, 3)) (argsL rest : List Value) (W : Nat) (hM : MetFree l y (head1 [Cond.code y bytes maxY retY] rm) (fun a' U => a' = (.ref a :: argsL).toArray ∧ Z.Warmed39 U.vm ∧ U.heap = h) (fun _ _ _ _ _ => True) (fun _ U o U' => ∃ v L, o = .returned v ∧ OwnQ none h n0 v U'.heap L ∧ FrameEnd U o U' L rm.cells rm.slots)) (N : Fr n0 locs) (hpd : parseMethodDescriptor y.desc = some ⟨ps, rr⟩) (eT : T.heap = h) (pc' : Nat) (k : ∀ (T' : State) (L : List Loc), Stand p l e R s m args below meth c T' (locs ++ L) (cells + rm.cells) (slots + rm.slots) → Fr n0 (locs ++ L) → T'.heap = h → Goes p.tables e below G (T'.setTop (mkF m pc' ls (rest)))) (hy : y.cls ≠ "java/lang/invoke/MethodHandle" ∧ y.cls ≠ "java/lang/invoke/VarHandle" := by decide) (hf : rm.frames + 1 ≤ R.frames := by decide) (hl : W + (maxY + 11) + rm.locals ≤ R.locals := by decide) (hls : ls.size = maxL := by rfl) (hlen : argsL.length = ps.length := by rfl) (hst : stk = argsL.reverse ++ .ref a :: rest := by rfl) (hW : (rest.map fun v => v.category).sum ≤ W := by exact Nat.le_of_eq rfl) (hc : cells + rm.cells ≤ R.cells := by decide) (hs : slots + rm.slots ≤ R.slots := by decide) (hp : pc + 3 = pc' := by rfl) : Goes p.tables e below G (T.setTop (mkF m pc ls stk)) :=
  g_callV C X B.1 B.2.1 (notFace_of_selects (args := #[]) (mvT C.2.1 B.2.2.1)) B.2.2.1 B.2.2.2.1 B.2.2.2.2.1 B.2.2.2.2.2 E hd argsL rest W hM hpd eT pc' (fun v T' L X' hQ => by obtain ⟨rfl, Nq, eq⟩ := hQ; exact k T' L X' (Fr.app N Nq) eq) hy hf hl hls hlen hst hW hc hs hp
theorem bo {y : MethodName} {bytes : ByteArray} {ws : List Cond} {as' : Array Value} {h0 : Heap} {Q : Option Value → Heap → List Loc → Prop} (hplain : plainFor y = true)
    (H : ∀ p e s m below meth c s₁ G, Ctx p Z s m meth c bytes y.cls maxL ret → meth.name = y.name → s.methodNamed? y = some m → Stand p l e R s m as' below meth c s₁ [] 0 0 → s₁.heap = h0 →
      (∀ (v : Option Value) (L : List Loc) (T' : State), Q v T'.heap L → s.WarmedH T'.vm → s.sameButNew ({ T' with vm := s.vm } : State) L R.cells R.slots → G (.returned v) T') →
      Goes p.tables e below G (s₁.setTop (entryFrame m as' maxL))) : OwnMF l Z y bytes maxL ret ws R as' h0 Q := body_of hplain H
theorem boH {EL : List (String × Nat)} {y : MethodName} {bytes : ByteArray} {ws : List Cond} {as' : Array Value} {h0 : Heap} {Q : Option Value → Heap → List Loc → Prop} (hplain : plainFor y = true)
    (H : ∀ p e s m below meth c s₁ G, Ctx p Z (s.setVm s.vm) m meth c bytes y.cls maxL ret → meth.name = y.name → (s.setVm s.vm).methodNamed? y = some m → Stand p l e R (s.setVm s.vm) m as' below meth c s₁ [] 0 0 → s₁.heap = h0 → s.heap = h0 → s.Since s.vm 0 → CHv Z EL s.vm h0 → CHr Z EL s.vm h0 s.vm h0 →
      (∀ (v : Option Value) (L : List Loc) (T' : State), Q v T'.heap L → CHr Z EL s.vm h0 T'.vm T'.heap → ReturnedEndW s (.returned v) T' L R.cells R.slots → G (.returned v) T') →
      Goes p.tables e below G (s₁.setTop (entryFrame m as' maxL))) : OwnMFH l Z EL y bytes maxL ret ws R as' h0 Q := body_ofH hplain H
end Kit
end Jvm.Own

namespace Jvm.Pilot.@@N@@
open Jvm Jvm.ClassFile Sem Op Lib Jvm.Free Jvm.Stand Jvm.LawKit Jvm.RoadKit Jvm.Own Bundle Jvm.Pilot.@@N@@.Jvm.D
set_option maxRecDepth 65536
set_option maxHeartbeats 40000000
abbrev OwnW (a0 : Array Value) (Z : State) : Prop := ∀ d ∈ tables_1, d.before a0 Z = true
variable {l : Launch} {Z : State} {a0 : Array Value} {ws : List Jvm.Cond} {h0 : Heap} {n0 : Nat}
abbrev OFv (Z : State) (h : Heap) (a : Addr) (v : Value) : Prop := Fld Z h a "java/lang/String" "value" "[B" v
abbrev OFc (Z : State) (h : Heap) (a : Addr) : Prop := Fld Z h a "java/lang/String" "coder" "B" (.int (0 : Int32))
abbrev OEs (Z : State) (h : Heap) (a : Addr) : Prop := Exa Z h a "java/lang/String"
abbrev OSc (Z : State) (h : Heap) (x : Int32) : Prop := Sta Z h "java/lang/String" "COMPACT_STRINGS" "Z" (.int x)
abbrev OSf (Z : State) (h : Heap) (x : Value) : Prop := Sta Z h "jdk/internal/util/Preconditions" "SIOOBE_FORMATTER" "Ljava/util/function/BiFunction;" x
def own_ch (b : Int32) : Int32 := nar .char (b &&& 255).toUInt32.toUInt16.toUInt32.toInt32
def own_lat (c : Int32) : Prop := ¬ c < 0 ∧ ¬ 255 < c
theorem own_ch_fin : ∀ n : Fin 256, own_ch (nar .byte (Int32.ofNat n.val).toInt8.toInt32) = Int32.ofNat n.val := by decide +kernel
theorem own_lat_fin {c : Int32} (h : own_lat c) : ∃ n : Fin 256, c = Int32.ofNat n.val := by
  obtain ⟨h1, h2⟩ := h
  have e0 : (0 : Int32).toInt = 0 := by decide
  have e1 : (255 : Int32).toInt = 255 := by decide
  rw [Int32.lt_iff_toInt_lt] at h1 h2
  refine ⟨⟨c.toInt.toNat, by omega⟩, ?_⟩
  rw [← Int32.toInt_inj]
  show c.toInt = (Int32.ofNat c.toInt.toNat).toInt
  rw [Int32.toInt_ofNat_of_lt (by omega)]; omega
theorem own_ch_of {c : Int32} (h : own_lat c) : own_ch (nar .byte c.toInt8.toInt32) = c := by
  obtain ⟨n, rfl⟩ := own_lat_fin h
  exact own_ch_fin n
theorem own_and_lat (x : Int32) : own_lat (x &&& 255) := by
  have e : (x &&& 255 : Int32).toInt = x.toInt % 2 ^ 8 := Jvm.Kit.i32_mask x 255 (k := 8) (by decide) (by decide)
  have e0 : (0 : Int32).toInt = 0 := by decide
  have e1 : (255 : Int32).toInt = 255 := by decide
  refine ⟨?_, ?_⟩ <;> rw [Int32.lt_iff_toInt_lt] <;> omega
theorem own_i2c_fin : ∀ n : Fin 256, (Int32.ofNat n.val).toUInt32.toUInt16.toUInt32.toInt32 = Int32.ofNat n.val := by decide +kernel
theorem own_i2c {c : Int32} (h : own_lat c) : c.toUInt32.toUInt16.toUInt32.toInt32 = c := by
  obtain ⟨n, rfl⟩ := own_lat_fin h
  exact own_i2c_fin n
theorem own_narc {c : Int32} (h : own_lat c) : nar .char c = c := own_i2c h
theorem own_c255 (x : Int32) : own_lat (x &&& 255).toUInt32.toUInt16.toUInt32.toInt32 := by rw [own_i2c (own_and_lat x)]; exact own_and_lat x
theorem own_bs (c : Int32) : nar .char c = c.toUInt32.toUInt16.toUInt32.toInt32 := rfl
theorem own_u16 (u : UInt16) : u.toUInt32.toInt32.toUInt32.toUInt16 = u := by
  show u.toUInt32.toUInt16 = u
  simp
theorem own_narr (b : Int32) : nar .char (own_ch b) = own_ch b := by
  show (b &&& 255).toUInt32.toUInt16.toUInt32.toInt32.toUInt32.toUInt16.toUInt32.toInt32.toUInt32.toUInt16.toUInt32.toInt32 = (b &&& 255).toUInt32.toUInt16.toUInt32.toInt32.toUInt32.toUInt16.toUInt32.toInt32
  rw [own_u16]
theorem own_ne0 {t : Term} {args : Array Value} {s : State} {x k : Int32} (ev : t.eval args s none [] s = some (.int x)) (h : (Jvm.Cond.eq t (.int k)).value args s none s [] = some false) : ¬ x = k := by
  have e2 : (Term.int k).eval args s none [] s = some (.int k) := rfl
  simp only [Cond.value, ev, e2] at h
  simpa using h
def ch (d : Nat) : Int32 := Int32.ofNat (48 + d)
def low (n : Nat) : Nat → List Int32
  | 0 => []
  | j + 1 => ch (n / 10 ^ j % 10) :: low n j
def dg (n : Nat) : Nat := if n < 10 then 1 else if n < 100 then 2 else if n < 1000 then 3 else if n < 10000 then 4 else if n < 100000 then 5 else if n < 1000000 then 6 else if n < 10000000 then 7 else if n < 100000000 then 8 else if n < 1000000000 then 9 else 10
def sgn (v : Int32) : List Int32 := if v < 0 then [45] else []
def decI (v : Int32) : List Int32 := sgn v ++ low v.toInt.natAbs (dg v.toInt.natAbs)
theorem low_length (n j : Nat) : (low n j).length = j := by induction j with
  | zero => rfl
  | succ j ih => simp [low, ih]
theorem low_getD (n j i : Nat) (h : i < j) (d : Int32) : (low n j).getD i d = ch (n / 10 ^ (j - 1 - i) % 10) := by
  induction j generalizing i with
  | zero => omega
  | succ j ih =>
    cases i with
    | zero => simp [low]
    | succ i =>
      have := ih i (by omega)
      rw [show j + 1 - 1 - (i + 1) = j - 1 - i by omega]
      simpa [low] using this
theorem dg_pos (n : Nat) : 1 ≤ dg n ∧ dg n ≤ 10 := by
  unfold dg
  repeat' split
  all_goals omega
theorem dg_le (n j : Nat) (hn : n ≤ 2 ^ 31) (h : 1 ≤ n / 10 ^ j) : j < dg n := by
  have hj : j < 10 := by
    rcases Nat.lt_or_ge j 10 with h' | h'
    · exact h'
    · exfalso
      have : 10 ^ 10 ≤ 10 ^ j := Nat.pow_le_pow_right (by decide) h'
      have h2 : n / 10 ^ j = 0 := Nat.div_eq_of_lt (by omega)
      omega
  have hn2 : n ≤ 2147483648 := hn
  unfold dg
  have hc : j = 0 ∨ j = 1 ∨ j = 2 ∨ j = 3 ∨ j = 4 ∨ j = 5 ∨ j = 6 ∨ j = 7 ∨ j = 8 ∨ j = 9 := by omega
  rcases hc with rfl | rfl | rfl | rfl | rfl | rfl | rfl | rfl | rfl | rfl <;> simp only [Nat.reducePow] at h <;> repeat' split
  all_goals omega
theorem dg_eq (n j : Nat) (hn : n ≤ 2 ^ 31) (h : n / 10 ^ j < 10) (h1 : j = 0 ∨ 1 ≤ n / 10 ^ j) : dg n = j + 1 := by
  have h2 : j < dg n := by
    rcases h1 with rfl | h1
    · exact (dg_pos n).1
    · exact dg_le n j hn h1
  have hj := (dg_pos n).2
  have hn2 : n ≤ 2147483648 := hn
  have hc : j = 0 ∨ j = 1 ∨ j = 2 ∨ j = 3 ∨ j = 4 ∨ j = 5 ∨ j = 6 ∨ j = 7 ∨ j = 8 ∨ j = 9 := by omega
  revert h2
  unfold dg
  rcases hc with rfl | rfl | rfl | rfl | rfl | rfl | rfl | rfl | rfl | rfl <;> simp only [Nat.reducePow] at h h1 <;> repeat' split
  all_goals omega
theorem natAbs_le (v : Int32) : v.toInt.natAbs ≤ 2 ^ 31 := by
  have := Int32.toInt_lt v; have := Int32.le_toInt v; omega
theorem sgn_length (v : Int32) : (sgn v).length ≤ 1 := by unfold sgn; split <;> decide
theorem decI_length (v : Int32) : 1 ≤ (decI v).length ∧ (decI v).length ≤ 11 := by
  unfold decI
  have := sgn_length v; have := dg_pos v.toInt.natAbs
  simp only [List.length_append, low_length]; omega
theorem i_add (a b : Nat) : Int32.ofNat a + Int32.ofNat b = Int32.ofNat (a + b) := (Int32.ofNat_add a b).symm
theorem i_sub (a b : Nat) (h : b ≤ a) : Int32.ofNat a - Int32.ofNat b = Int32.ofNat (a - b) := by
  rw [Int32.sub_eq_iff_eq_add, i_add]; congr 1; omega
theorem i_toInt (a : Nat) (h : a < 2 ^ 31) : (Int32.ofNat a).toInt = a := Int32.toInt_ofNat_of_lt h
theorem i_toNat (a : Nat) (h : a < 2 ^ 31) : (Int32.ofNat a).toNatClampNeg = a := by
  show (Int32.ofNat a).toInt.toNat = a; rw [i_toInt a h]; rfl
theorem i_lt (a b : Nat) (ha : a < 2 ^ 31) (hb : b < 2 ^ 31) : Int32.ofNat a < Int32.ofNat b ↔ a < b := by
  rw [Int32.lt_iff_toInt_lt, i_toInt a ha, i_toInt b hb]; omega
theorem i_nn (a : Nat) (h : a < 2 ^ 31) : ¬ Int32.ofNat a < 0 := by
  rw [Int32.lt_iff_toInt_lt, i_toInt a h]; show ¬ ((a : Int) < 0); omega
theorem i_in (a b : Nat) (ha : a < b) (hb : b < 2 ^ 31) : ¬ Int32.ofNat a < 0 ∧ Int32.ofNat a < Int32.ofNat b := ⟨i_nn a (by omega), (i_lt a b (by omega) hb).mpr ha⟩
theorem i_dec (a : Nat) : Int32.ofNat (a + 1) + Int32.ofInt (-1) = Int32.ofNat a := by
  rw [Int32.ofNat_add, Int32.add_assoc, show Int32.ofNat 1 + Int32.ofInt (-1) = 0 by decide, Int32.add_zero]
def wl (l : List Int32) (a : Nat) (suf : List Int32) : List Value := (l ++ List.replicate a 0 ++ suf).map Value.int
theorem wl_length (l : List Int32) (a : Nat) (suf : List Int32) : (wl l a suf).length = l.length + a + suf.length := by simp [wl]; omega
theorem wl_set (l : List Int32) (a : Nat) (suf : List Int32) (x : Int32) : (wl l (a + 1) suf).set (l.length + a) (.int x) = wl l a (x :: suf) := by
  unfold wl
  rw [← List.map_set]
  congr 1
  rw [List.append_assoc, List.set_append_right _ _ (by omega), List.append_assoc, Nat.add_sub_cancel_left]
  congr 1
  rw [List.replicate_succ', List.append_assoc, List.set_append_right _ _ (by simp)]
  simp
theorem wl_zero (l suf : List Int32) : wl l 0 suf = (l ++ suf).map Value.int := by simp [wl]
theorem wl_pad (l : List Int32) (a : Nat) : wl l a [] = l.map Value.int ++ List.replicate a (.int 0) := by simp [wl]
def ng (n : Nat) : Int32 := Int32.ofInt (-(n : Int))
theorem ng_toInt {n : Nat} (h : n ≤ 2 ^ 31) : (ng n).toInt = -(n : Int) := Int32.toInt_ofInt_of_le (by omega) (by omega)
theorem ng_abs (v : Int32) : (if v < 0 then v else -v) = ng v.toInt.natAbs := by
  have h1 := Int32.toInt_lt v; have h2 := Int32.le_toInt v; have h3 := natAbs_le v
  rw [← Int32.toInt_inj, ng_toInt h3]
  split
  · rename_i h; rw [Int32.lt_iff_toInt_lt] at h; have : v.toInt < 0 := h; omega
  · rename_i h; rw [Int32.lt_iff_toInt_lt] at h; have : ¬ v.toInt < 0 := h
    rw [Int32.toInt_neg, Int.bmod_eq_of_le (by omega) (by omega)]; omega
theorem ng_gt {n : Nat} (h : n ≤ 2 ^ 31) (k : Int32) (c : Nat) (hk : k.toInt = -(c : Int)) : k < ng n ↔ n < c := by
  rw [Int32.lt_iff_toInt_lt, ng_toInt h, hk]; omega
theorem ng_div {n : Nat} (h : n ≤ 2 ^ 31) : ng n / 100 = ng (n / 100) := by
  rw [← Int32.toInt_inj, ng_toInt (by omega), Int32.toInt_div, ng_toInt h]
  show ((-(n : Int)).tdiv 100).bmod (2 ^ 32) = _
  rw [Int.neg_tdiv, Int.tdiv_eq_ediv_of_nonneg (by omega), Int.bmod_eq_of_le (by omega) (by omega)]; omega
theorem ng_rem {n : Nat} (h : n ≤ 2 ^ 31) : ng (n / 100) * 100 - ng n = Int32.ofNat (n % 100) := by
  rw [← Int32.toInt_inj, i_toInt _ (by omega), Int32.toInt_sub, Int32.toInt_mul, ng_toInt h, ng_toInt (by omega)]
  show ((-((n / 100 : Nat) : Int) * 100).bmod (2 ^ 32) - -(n : Int)).bmod (2 ^ 32) = _
  rw [Int.bmod_eq_of_le (n := -((n / 100 : Nat) : Int) * 100) (by omega) (by omega), Int.bmod_eq_of_le (by omega) (by omega)]; omega
theorem ng_neg {n : Nat} (h : n < 2 ^ 31) : -(ng n) = Int32.ofNat n := by
  rw [← Int32.toInt_inj, i_toInt _ h, Int32.toInt_neg, ng_toInt (by omega), Int.bmod_eq_of_le (by omega) (by omega)]; omega
theorem low_two (n j : Nat) : ch (n / 10 ^ j % 100 / 10) :: ch (n / 10 ^ j % 100 % 10) :: low n j = low n (j + 2) := by
  have e : n / 10 ^ (j + 1) = n / 10 ^ j / 10 := by rw [Nat.pow_succ, Nat.div_div_eq_div_mul]
  simp only [low, e]
  congr 2
  · omega
  · congr 1; omega
theorem div_two (n j : Nat) : n / 10 ^ j / 100 = n / 10 ^ (j + 2) := by
  rw [Nat.div_div_eq_div_mul, Nat.pow_add]

theorem own_get {l : List Int32} {j : Nat} {i : Int32} (hi : Int32.ofNat j = i) (hb : j < 2 ^ 31) : (l.map Value.int).getD i.toNatClampNeg (.int 0) = .int (l.getD j 0) := by
  subst hi; rw [i_toNat _ hb]; simp only [List.getD_eq_getElem?_getD, List.getElem?_map]; cases l[j]? <;> rfl
theorem own_in {l : List Int32} {j : Nat} {i : Int32} (hi : Int32.ofNat j = i) (hl : j < l.length) (hb : l.length ≤ 1000) : ¬ i < 0 ∧ i < Int32.ofNat l.length := hi ▸ i_in j l.length hl (by omega)
theorem own_shr0 (x : Int32) : x >>> ((0 : Int32) &&& 31) = x := by
  rw [← Int32.toInt_inj]; simp

def EL : List (String × Nat) := [("java/lang/String", 7), ("com/example/firer/firer/formats/ParserMessages", 10), ("com/example/firer/firer/formats/ParserMessages", 19), ("com/example/firer/firer/formats/ParserMessages", 21), ("com/example/firer/firer/formats/ParserMessagesAtPinLaw", 37), ("com/example/firer/firer/formats/ParserMessagesAtPinLaw", 47), ("com/example/firer/firer/formats/ParserMessagesAtPinLaw", 53)]
theorem ef_9ri (m : MethodId) (a1 : Addr) (a2 : Int32) : entryFrame m #[(.ref a1), (.int a2)] 2 = mkF m 0 #[rv a1, iv a2] [] := by first | (simp [entryFrame, mkF, argsToLocals, Value.category, iv, rv, jv, nv, uu, sd]; done) | rfl
theorem d9_0 : decode jdk_68_method_2_code 0 = .ok (.aload_n 0, 1) := by decide +kernel
theorem d9_1 : decode jdk_68_method_2_code 1 = .ok (.invokespecial 3, 3) := by decide +kernel
theorem w_49 {Z : State} {a0 : Array Value} (hw : ∀ d ∈ tables_1, d.before a0 Z = true) : Jvm.Cond.before (Jvm.Cond.methodLink "java/lang/AbstractStringBuilder" (3 : Nat) ({ cls := "java/lang/Object", name := "<init>", desc := "()V" } : Jvm.MethodName)) a0 Z = true := hw _ (List.mem_of_getElem? (i := 49) rfl)
theorem w_22 {Z : State} {a0 : Array Value} (hw : ∀ d ∈ tables_1, d.before a0 Z = true) : Jvm.Cond.before (Jvm.Cond.instanceMethod ({ cls := "java/lang/Object", name := "<init>", desc := "()V" } : Jvm.MethodName)) a0 Z = true := hw _ (List.mem_of_getElem? (i := 22) rfl)
theorem w_23 {Z : State} {a0 : Array Value} (hw : ∀ d ∈ tables_1, d.before a0 Z = true) : Jvm.Cond.before (Jvm.Cond.code ({ cls := "java/lang/Object", name := "<init>", desc := "()V" } : Jvm.MethodName) object_method_1_code (1 : Nat) (Option.none : Option Jvm.ClassFile.FieldType)) a0 Z = true := hw _ (List.mem_of_getElem? (i := 23) rfl)
theorem d9_4 : decode jdk_68_method_2_code 4 = .ok (.getstatic 18, 3) := by decide +kernel
theorem w_50 {Z : State} {a0 : Array Value} (hw : ∀ d ∈ tables_1, d.before a0 Z = true) : Jvm.Cond.before (Jvm.Cond.fieldLink "java/lang/AbstractStringBuilder" (18 : Nat) "java/lang/String" "COMPACT_STRINGS" "Z") a0 Z = true := hw _ (List.mem_of_getElem? (i := 50) rfl)
theorem d9_7 : decode jdk_68_method_2_code 7 = .ok (.ifCond .eq 18, 3) := by decide +kernel
theorem d9_10 : decode jdk_68_method_2_code 10 = .ok (.aload_n 0, 1) := by decide +kernel
theorem d9_11 : decode jdk_68_method_2_code 11 = .ok (.iload_n 1, 1) := by decide +kernel
theorem d9_12 : decode jdk_68_method_2_code 12 = .ok (.newarray .byte, 2) := by decide +kernel
theorem w_16 {Z : State} {a0 : Array Value} (hw : ∀ d ∈ tables_1, d.before a0 Z = true) : Jvm.Cond.before (Jvm.Cond.arrayClass Jvm.ClassFile.FieldType.byte) a0 Z = true := hw _ (List.mem_of_getElem? (i := 16) rfl)
theorem d9_14 : decode jdk_68_method_2_code 14 = .ok (.putfield 15, 3) := by decide +kernel
theorem w_52 {Z : State} {a0 : Array Value} (hw : ∀ d ∈ tables_1, d.before a0 Z = true) : Jvm.Cond.before (Jvm.Cond.lays "java/lang/StringBuilder" "java/lang/AbstractStringBuilder" "value" "[B") a0 Z = true := hw _ (List.mem_of_getElem? (i := 52) rfl)
theorem w_51 {Z : State} {a0 : Array Value} (hw : ∀ d ∈ tables_1, d.before a0 Z = true) : Jvm.Cond.before (Jvm.Cond.fieldLink "java/lang/AbstractStringBuilder" (15 : Nat) "java/lang/AbstractStringBuilder" "value" "[B") a0 Z = true := hw _ (List.mem_of_getElem? (i := 51) rfl)
theorem w_38 {Z : State} {a0 : Array Value} (hw : ∀ d ∈ tables_1, d.before a0 Z = true) : Jvm.Cond.before (Jvm.Cond.instantiable "java/lang/StringBuilder" (4 : Nat)) a0 Z = true := hw _ (List.mem_of_getElem? (i := 38) rfl)
theorem w_54 {Z : State} {a0 : Array Value} (hw : ∀ d ∈ tables_1, d.before a0 Z = true) : Jvm.Cond.before (Jvm.Cond.lays "java/lang/StringBuilder" "java/lang/AbstractStringBuilder" "coder" "B") a0 Z = true := hw _ (List.mem_of_getElem? (i := 54) rfl)
theorem w_79 {Z : State} {a0 : Array Value} (hw : ∀ d ∈ tables_1, d.before a0 Z = true) : Jvm.Cond.before (Jvm.Cond.lays "java/lang/StringBuilder" "java/lang/AbstractStringBuilder" "count" "I") a0 Z = true := hw _ (List.mem_of_getElem? (i := 79) rfl)
theorem d9_17 : decode jdk_68_method_2_code 17 = .ok (.aload_n 0, 1) := by decide +kernel
theorem d9_18 : decode jdk_68_method_2_code 18 = .ok (.iconst 0, 1) := by decide +kernel
theorem d9_19 : decode jdk_68_method_2_code 19 = .ok (.putfield 22, 3) := by decide +kernel
theorem w_53 {Z : State} {a0 : Array Value} (hw : ∀ d ∈ tables_1, d.before a0 Z = true) : Jvm.Cond.before (Jvm.Cond.fieldLink "java/lang/AbstractStringBuilder" (22 : Nat) "java/lang/AbstractStringBuilder" "coder" "B") a0 Z = true := hw _ (List.mem_of_getElem? (i := 53) rfl)
theorem d9_22 : decode jdk_68_method_2_code 22 = .ok (.goto 16, 3) := by decide +kernel
theorem d9_38 : decode jdk_68_method_2_code 38 = .ok (.return_, 1) := by decide +kernel
def Q9 (Z : State) (o1 : Addr) (cs1 : Int32) (h0 : Heap) (n0 : Nat) (v : Option Value) (h : Heap) (L : List Loc) : Prop := ∃ (o3 : Addr) (kd3 : ClassId), v = none ∧ Fr n0 L ∧ h0.size ≤ o3 ∧ Keep h0 h [o1] ∧ Fld Z h o1 "java/lang/AbstractStringBuilder" "value" "[B" (.ref o3) ∧ Fld Z h o1 "java/lang/AbstractStringBuilder" "coder" "B" (.int 0) ∧ Fld Z h o1 "java/lang/AbstractStringBuilder" "count" "I" (.int (Int32.ofNat ([] : List Int32).length)) ∧ Arv Z h o3 kd3 .byte (Int32.ofNat 16) (([] : List Int32).map Value.int) (.int 0) ∧ Exa Z h o3 "[B"
abbrev y9 : MethodName := (⟨"java/lang/AbstractStringBuilder", "<init>", "(I)V"⟩ : MethodName)
theorem pn_9 : plainName "java/lang/AbstractStringBuilder" = true := by first | (simp [plainName, overriddenIn]; done) | decide +kernel
theorem rm9 {o1 : Addr} {cs1 : Int32} (hw : OwnW a0 Z) (Z0 : n0 ≤ h0.size) (F0 : Exa Z h0 o1 "java/lang/StringBuilder") (F1 : Fld Z h0 o1 "java/lang/AbstractStringBuilder" "value" "[B" .null) (F2 : Fld Z h0 o1 "java/lang/AbstractStringBuilder" "coder" "B" (.int 0)) (F3 : Fld Z h0 o1 "java/lang/AbstractStringBuilder" "count" "I" (.int 0)) (F4 : OSc Z h0 cs1) (gn_o1 : n0 ≤ o1) (hcs : ¬ cs1 = (0 : Int32)) : OwnMF l Z y9 jdk_68_method_2_code 2 none ws ⟨1, 1, 16, 12⟩ #[(.ref o1), (.int 16)] h0 (Q9 Z o1 cs1 h0 n0) := by
  refine bo (plainFor_of_name pn_9) ?_
  intro p e s m below meth c T0 G C hnm hnamed X0 e0 K
  have N0 := Fr.nil n0
  refine Goes.to (congrArg T0.setTop (ef_9ri m o1 (16 : Int32))) ?_
  have K00 := Keep.refl h0 [o1]
  refine g_aloadN C X0 d9_0 1 rfl rfl ?_
  refine g_initO C X0 (w_49 hw) (w_22 hw) (w_23 hw) e0 rfl d9_1 4 (by decide) (W := 0) (Nat.le_of_eq rfl) (by decide) (fun T1 X1 e1 => ?_)
  refine g_getS C X1 (w_50 hw) Via.refl e1 F4 d9_4 7 (fun T2 X2 e2 => ?_)
  refine g_if_eq C X2 d9_7 25 10 (fun hc7 => absurd hc7 hcs) (fun hc7 => ?_)
  refine g_aloadN C X2 d9_10 11 rfl rfl ?_
  refine g_iloadN C X2 d9_11 12 rfl ?_
  refine g_newAE (aty := .byte) (n := (16 : Int32)) C X2 (cap := 16) (w_16 hw) rfl e2 d9_12 14 (by decide) (by decide) (by decide) (by decide) (by decide) (fun T3 h3 b3 ki3 X3 e3 g3 E3 A3 U3 => ?_)
  have n4 : o1 ≠ b3 := Nat.ne_of_lt (Nat.lt_of_lt_of_eq F0.lt g3.symm)
  have f5 := F0.ext E3
  have f6 := F1.ext E3
  have f7 := F2.ext E3
  have f8 := F3.ext E3
  have sz_b3 : h0.size ≤ b3 := Nat.le_trans K00.1 (Nat.le_of_eq g3.symm)
  have K3 := K00.ext E3
  have f10 : Arv Z h3 b3 ki3 .byte (Int32.ofNat 16) (([] : List Int32).map Value.int) (.int 0) := A3
  refine g_putF C X3 (w_51 hw) Via.refl e3 f6 f5 (Or.inl (w_52 hw)) (w_38 hw) (ty := (.array .byte)) (by decide) rfl rfl d9_14 17 (fun T11 h11 X11 e11 W11 => ?_)
  have f12 := f5.wr W11
  have f13 := f6.same W11
  have f14 := f7.other W11 (Or.inr (slot_ne (Or.inl (w_54 hw)) (Or.inl (w_52 hw)) (by decide) (t := .byte) (t' := (.array .byte)) (by decide) (by decide)))
  have f15 := f8.other W11 (Or.inr (slot_ne (Or.inl (w_79 hw)) (Or.inl (w_52 hw)) (by decide) (t := .int) (t' := (.array .byte)) (by decide) (by decide)))
  have f17 := f10.other W11 (Ne.symm n4)
  have f18 := U3.wr W11
  have N11 := Fr.snoc X11 N0 gn_o1
  have K11 := K3.wr W11 (Or.inl (List.mem_of_getElem? (i := 0) rfl))
  refine g_aloadN C X11 d9_17 18 rfl rfl ?_
  refine g_iconst C X11 d9_18 19 (v := 0) rfl ?_
  refine g_putFN C X11 (w_53 hw) Via.refl e11 f14 f12 (Or.inl (w_54 hw)) (w_38 hw) (ty := .byte) (by decide) (v' := (.int 0)) (by decide) (by decide) d9_19 22 (fun T19 h19 X19 e19 W19 => ?_)
  have f21 := f13.other W19 (Or.inr (slot_ne (Or.inl (w_52 hw)) (Or.inl (w_54 hw)) (by decide) (t := (.array .byte)) (t' := .byte) (by decide) (by decide)))
  have f22 := f14.same W19
  have f23 := f15.other W19 (Or.inr (slot_ne (Or.inl (w_79 hw)) (Or.inl (w_54 hw)) (by decide) (t := .int) (t' := .byte) (by decide) (by decide)))
  have f25 := f17.other W19 (Ne.symm n4)
  have f26 := f18.wr W19
  have N19 := Fr.snoc X19 N11 gn_o1
  have K19 := K11.wr W19 (Or.inl (List.mem_of_getElem? (i := 0) rfl))
  refine g_goto C X19 d9_22 38 ?_
  exact g_retV C X19 K d9_38 (by decide) (by decide) e19 ⟨b3, ki3, rfl, N19, sz_b3, K19, f21, f22, f23, f25, f26⟩
theorem ef_8r (m : MethodId) (a1 : Addr) : entryFrame m #[(.ref a1)] 1 = mkF m 0 #[rv a1] [] := by first | (simp [entryFrame, mkF, argsToLocals, Value.category, iv, rv, jv, nv, uu, sd]; done) | rfl
theorem d8_0 : decode jdk_67_method_1_code 0 = .ok (.aload_n 0, 1) := by decide +kernel
theorem d8_1 : decode jdk_67_method_1_code 1 = .ok (.bipush 16, 2) := by decide +kernel
theorem d8_3 : decode jdk_67_method_1_code 3 = .ok (.invokespecial 1, 3) := by decide +kernel
theorem w_48 {Z : State} {a0 : Array Value} (hw : ∀ d ∈ tables_1, d.before a0 Z = true) : Jvm.Cond.before (Jvm.Cond.code ({ cls := "java/lang/AbstractStringBuilder", name := "<init>", desc := "(I)V" } : Jvm.MethodName) jdk_68_method_2_code (2 : Nat) (Option.none : Option Jvm.ClassFile.FieldType)) a0 Z = true := hw _ (List.mem_of_getElem? (i := 48) rfl)
theorem w_47 {Z : State} {a0 : Array Value} (hw : ∀ d ∈ tables_1, d.before a0 Z = true) : Jvm.Cond.before (Jvm.Cond.initialized "java/lang/AbstractStringBuilder") a0 Z = true := hw _ (List.mem_of_getElem? (i := 47) rfl)
theorem w_43 {Z : State} {a0 : Array Value} (hw : ∀ d ∈ tables_1, d.before a0 Z = true) : Jvm.Cond.before (Jvm.Cond.methodLink "java/lang/StringBuilder" (1 : Nat) ({ cls := "java/lang/AbstractStringBuilder", name := "<init>", desc := "(I)V" } : Jvm.MethodName)) a0 Z = true := hw _ (List.mem_of_getElem? (i := 43) rfl)
theorem pd_0 : parseMethodDescriptor "(I)V" = some ⟨[.int], none⟩ := by decide +kernel
theorem w_44 {Z : State} {a0 : Array Value} (hw : ∀ d ∈ tables_1, d.before a0 Z = true) : Jvm.Cond.before (Jvm.Cond.instanceMethod ({ cls := "java/lang/AbstractStringBuilder", name := "<init>", desc := "(I)V" } : Jvm.MethodName)) a0 Z = true := hw _ (List.mem_of_getElem? (i := 44) rfl)
theorem d8_6 : decode jdk_67_method_1_code 6 = .ok (.return_, 1) := by decide +kernel
def Q8 (Z : State) (o1 : Addr) (cs1 : Int32) (h0 : Heap) (n0 : Nat) (v : Option Value) (h : Heap) (L : List Loc) : Prop := ∃ (o3 : Addr) (kd3 : ClassId), v = none ∧ Fr n0 L ∧ h0.size ≤ o3 ∧ Keep h0 h [o1] ∧ Fld Z h o1 "java/lang/AbstractStringBuilder" "value" "[B" (.ref o3) ∧ Fld Z h o1 "java/lang/AbstractStringBuilder" "coder" "B" (.int 0) ∧ Fld Z h o1 "java/lang/AbstractStringBuilder" "count" "I" (.int (Int32.ofNat ([] : List Int32).length)) ∧ Arv Z h o3 kd3 .byte (Int32.ofNat 16) (([] : List Int32).map Value.int) (.int 0) ∧ Exa Z h o3 "[B"
abbrev y8 : MethodName := (⟨"java/lang/StringBuilder", "<init>", "()V"⟩ : MethodName)
theorem pn_8 : plainName "java/lang/StringBuilder" = true := by first | (simp [plainName, overriddenIn]; done) | decide +kernel
theorem rm8 {o1 : Addr} {cs1 : Int32} (hw : OwnW a0 Z) (Z0 : n0 ≤ h0.size) (F0 : Exa Z h0 o1 "java/lang/StringBuilder") (F1 : Fld Z h0 o1 "java/lang/AbstractStringBuilder" "value" "[B" .null) (F2 : Fld Z h0 o1 "java/lang/AbstractStringBuilder" "coder" "B" (.int 0)) (F3 : Fld Z h0 o1 "java/lang/AbstractStringBuilder" "count" "I" (.int 0)) (F4 : OSc Z h0 cs1) (gn_o1 : n0 ≤ o1) (hcs : ¬ cs1 = (0 : Int32)) : OwnMF l Z y8 jdk_67_method_1_code 1 none ws ⟨2, 1, 16, 25⟩ #[(.ref o1)] h0 (Q8 Z o1 cs1 h0 n0) := by
  refine bo (plainFor_of_name pn_8) ?_
  intro p e s m below meth c T0 G C hnm hnamed X0 e0 K
  have N0 := Fr.nil n0
  refine Goes.to (congrArg T0.setTop (ef_8r m o1)) ?_
  have K00 := Keep.refl h0 [o1]
  refine g_aloadN C X0 d8_0 1 rfl rfl ?_
  refine g_bipush C X0 d8_1 3 (v := 16) rfl ?_
  refine g_callI C X0 rfl (w_43 hw) (w_44 hw) (w_47 hw) (w_48 hw) d8_3 [(.int 16)] [] 0 (rm9 hw Z0 F0 F1 F2 F3 F4 gn_o1 hcs) pd_0 e0 6 (fun u1 T1 L1 X1 hQ1 => ?_)
  obtain ⟨o31, kd31, rfl, Nq1, szo31, Kq1, q1_0, q1_1, q1_2, q1_3, q1_4⟩ := hQ1
  have N1 := Fr.app N0 Nq1
  have sz_o31 : h0.size ≤ o31 := Nat.le_trans K00.1 szo31
  have K1 := K00.trans Kq1 (allS (Or.inl (List.mem_of_getElem? (i := 0) rfl)) all0)
  refine ret0 ?_
  exact g_retV C X1 K d8_6 (by decide) (by decide) rfl ⟨o31, kd31, rfl, N1, sz_o31, K1, q1_0, q1_1, q1_2, q1_3, q1_4⟩
theorem ef_13r (m : MethodId) (a1 : Addr) : entryFrame m #[(.ref a1)] 1 = mkF m 0 #[rv a1] [] := by first | (simp [entryFrame, mkF, argsToLocals, Value.category, iv, rv, jv, nv, uu, sd]; done) | rfl
theorem d13_0 : decode jdk_42_method_152_code 0 = .ok (.getstatic 38, 3) := by decide +kernel
theorem w_6 {Z : State} {a0 : Array Value} (hw : ∀ d ∈ tables_1, d.before a0 Z = true) : Jvm.Cond.before (Jvm.Cond.fieldLink "java/lang/String" (38 : Nat) "java/lang/String" "COMPACT_STRINGS" "Z") a0 Z = true := hw _ (List.mem_of_getElem? (i := 6) rfl)
theorem d13_3 : decode jdk_42_method_152_code 3 = .ok (.ifCond .eq 10, 3) := by decide +kernel
theorem d13_6 : decode jdk_42_method_152_code 6 = .ok (.aload_n 0, 1) := by decide +kernel
theorem d13_7 : decode jdk_42_method_152_code 7 = .ok (.getfield 15, 3) := by decide +kernel
theorem w_26 {Z : State} {a0 : Array Value} (hw : ∀ d ∈ tables_1, d.before a0 Z = true) : Jvm.Cond.before (Jvm.Cond.fieldLink "java/lang/String" (15 : Nat) "java/lang/String" "coder" "B") a0 Z = true := hw _ (List.mem_of_getElem? (i := 26) rfl)
theorem d13_10 : decode jdk_42_method_152_code 10 = .ok (.goto 4, 3) := by decide +kernel
theorem d13_14 : decode jdk_42_method_152_code 14 = .ok (.ireturn, 1) := by decide +kernel
abbrev y13 : MethodName := (⟨"java/lang/String", "coder", "()B"⟩ : MethodName)
theorem pn_1 : plainName "java/lang/String" = true := by first | (simp [plainName, overriddenIn]; done) | decide +kernel
theorem rm13 {o1 : Addr} {cs1 : Int32} (hw : OwnW a0 Z) (Z0 : n0 ≤ h0.size) (F0 : OFc Z h0 o1) (F1 : OSc Z h0 cs1) (hcs : ¬ cs1 = (0 : Int32)) : OwnMF l Z y13 jdk_42_method_152_code 1 (some .byte) ws ⟨0, 0, 0, 0⟩ #[(.ref o1)] h0 (OwnQ (some (.int 0)) h0 n0) := by
  refine bo (plainFor_of_name pn_1) ?_
  intro p e s m below meth c T0 G C hnm hnamed X0 e0 K
  have N0 := Fr.nil n0
  refine Goes.to (congrArg T0.setTop (ef_13r m o1)) ?_
  refine g_getS C X0 (w_6 hw) Via.refl e0 F1 d13_0 3 (fun T1 X1 e1 => ?_)
  refine g_if_eq C X1 d13_3 13 6 (fun hc3 => absurd hc3 hcs) (fun hc3 => ?_)
  refine g_aloadN C X1 d13_6 7 rfl rfl ?_
  refine g_getF C X1 (w_26 hw) Via.refl e1 F0 d13_7 10 (fun T2 X2 e2 => ?_)
  refine g_goto C X2 d13_10 14 ?_
  exact g_retN C X2 K (by simp) d13_14 (by decide) (by decide) e2 ⟨(by decide), N0, rfl⟩
theorem ef_12r (m : MethodId) (a1 : Addr) : entryFrame m #[(.ref a1)] 1 = mkF m 0 #[rv a1] [] := by first | (simp [entryFrame, mkF, argsToLocals, Value.category, iv, rv, jv, nv, uu, sd]; done) | rfl
theorem d12_0 : decode jdk_42_method_54_code 0 = .ok (.aload_n 0, 1) := by decide +kernel
theorem d12_1 : decode jdk_42_method_54_code 1 = .ok (.getfield 9, 3) := by decide +kernel
theorem w_24 {Z : State} {a0 : Array Value} (hw : ∀ d ∈ tables_1, d.before a0 Z = true) : Jvm.Cond.before (Jvm.Cond.fieldLink "java/lang/String" (9 : Nat) "java/lang/String" "value" "[B") a0 Z = true := hw _ (List.mem_of_getElem? (i := 24) rfl)
theorem d12_4 : decode jdk_42_method_54_code 4 = .ok (.arraylength, 1) := by decide +kernel
theorem d12_5 : decode jdk_42_method_54_code 5 = .ok (.aload_n 0, 1) := by decide +kernel
theorem d12_6 : decode jdk_42_method_54_code 6 = .ok (.invokevirtual 335, 3) := by decide +kernel
theorem w_77 {Z : State} {a0 : Array Value} (hw : ∀ d ∈ tables_1, d.before a0 Z = true) : Jvm.Cond.before (Jvm.Cond.code ({ cls := "java/lang/String", name := "coder", desc := "()B" } : Jvm.MethodName) jdk_42_method_152_code (1 : Nat) (Option.some Jvm.ClassFile.FieldType.byte)) a0 Z = true := hw _ (List.mem_of_getElem? (i := 77) rfl)
theorem w_4 {Z : State} {a0 : Array Value} (hw : ∀ d ∈ tables_1, d.before a0 Z = true) : Jvm.Cond.before (Jvm.Cond.initialized "java/lang/String") a0 Z = true := hw _ (List.mem_of_getElem? (i := 4) rfl)
theorem w_73 {Z : State} {a0 : Array Value} (hw : ∀ d ∈ tables_1, d.before a0 Z = true) : Jvm.Cond.before (Jvm.Cond.methodLink "java/lang/String" (335 : Nat) ({ cls := "java/lang/String", name := "coder", desc := "()B" } : Jvm.MethodName)) a0 Z = true := hw _ (List.mem_of_getElem? (i := 73) rfl)
theorem pd_1 : parseMethodDescriptor "()B" = some ⟨[], some .byte⟩ := by decide +kernel
theorem w_74 {Z : State} {a0 : Array Value} (hw : ∀ d ∈ tables_1, d.before a0 Z = true) : Jvm.Cond.before (Jvm.Cond.declares ({ cls := "java/lang/String", name := "coder", desc := "()B" } : Jvm.MethodName)) a0 Z = true := hw _ (List.mem_of_getElem? (i := 74) rfl)
theorem w_76 {Z : State} {a0 : Array Value} (hw : ∀ d ∈ tables_1, d.before a0 Z = true) : Jvm.Cond.before (Jvm.Cond.selects "java/lang/String" ({ cls := "java/lang/String", name := "coder", desc := "()B" } : Jvm.MethodName) ({ cls := "java/lang/String", name := "coder", desc := "()B" } : Jvm.MethodName)) a0 Z = true := hw _ (List.mem_of_getElem? (i := 76) rfl)
theorem w_75 {Z : State} {a0 : Array Value} (hw : ∀ d ∈ tables_1, d.before a0 Z = true) : Jvm.Cond.before (Jvm.Cond.instanceMethod ({ cls := "java/lang/String", name := "coder", desc := "()B" } : Jvm.MethodName)) a0 Z = true := hw _ (List.mem_of_getElem? (i := 75) rfl)
theorem b_0 (hw : OwnW a0 Z) : CallV "java/lang/String" 335 (⟨"java/lang/String", "coder", "()B"⟩ : MethodName) "java/lang/String" jdk_42_method_152_code (1 : Nat) (Option.some Jvm.ClassFile.FieldType.byte) a0 Z := ⟨(w_73 hw), (w_74 hw), (w_76 hw), (w_75 hw), (w_77 hw), (w_4 hw)⟩
theorem d12_9 : decode jdk_42_method_54_code 9 = .ok (.ishr, 1) := by decide +kernel
theorem d12_10 : decode jdk_42_method_54_code 10 = .ok (.ireturn, 1) := by decide +kernel
abbrev y12 : MethodName := (⟨"java/lang/String", "length", "()I"⟩ : MethodName)
theorem rm12_s {o1 o2 : Addr} {kd1 : ClassId} {l1 : List Int32} {cs1 : Int32} (hw : OwnW a0 Z) (Z0 : n0 ≤ h0.size) (F0 : OEs Z h0 o1) (F1 : OFv Z h0 o1 (.ref o2)) (F2 : OFc Z h0 o1) (F3 : Arv Z h0 o2 kd1 .byte (Int32.ofNat l1.length) (l1.map Value.int) (.int 0)) (F4 : OSc Z h0 cs1) (hcs : ¬ cs1 = (0 : Int32)) : OwnMF l Z y12 jdk_42_method_54_code 1 (some .int) ws ⟨1, 0, 0, 13⟩ #[(.ref o1)] h0 (OwnQ (some (.int (Int32.ofNat l1.length))) h0 n0) := by
  refine bo (plainFor_of_name pn_1) ?_
  intro p e s m below meth c T0 G C hnm hnamed X0 e0 K
  have N0 := Fr.nil n0
  refine Goes.to (congrArg T0.setTop (ef_12r m o1)) ?_
  refine g_aloadN C X0 d12_0 1 rfl rfl ?_
  refine g_getF C X0 (w_24 hw) Via.refl e0 F1 d12_1 4 (fun T1 X1 e1 => ?_)
  refine g_arraylength C X1 e1 F3 d12_4 5 ?_
  refine g_aloadN C X1 d12_5 6 rfl rfl ?_
  refine g_callV0 C X1 (b_0 hw) F0 d12_6 [] [(.int (Int32.ofNat l1.length))] 1 (rm13 hw Z0 F2 F4 hcs) N0 pd_1 e1 9 (fun T2 _ X2 N2 e2 => ?_)
  refine g_ishr C X2 d12_9 10 ?_
  exact g_retI C X2 K d12_10 (by decide) (by decide) e2 ⟨(by rw [own_shr0]), N2, rfl⟩
theorem ef_25ii (m : MethodId) (a1 : Int32) (a2 : Int32) : entryFrame m #[(.int a1), (.int a2)] 2 = mkF m 0 #[iv a1, iv a2] [] := by first | (simp [entryFrame, mkF, argsToLocals, Value.category, iv, rv, jv, nv, uu, sd]; done) | rfl
theorem d25_0 : decode jdk_29_method_65_code 0 = .ok (.iload_n 0, 1) := by decide +kernel
theorem d25_1 : decode jdk_29_method_65_code 1 = .ok (.iload_n 1, 1) := by decide +kernel
theorem d25_2 : decode jdk_29_method_65_code 2 = .ok (.if_icmp .lt 7, 3) := by decide +kernel
theorem d25_9 : decode jdk_29_method_65_code 9 = .ok (.iload_n 1, 1) := by decide +kernel
theorem d25_10 : decode jdk_29_method_65_code 10 = .ok (.ireturn, 1) := by decide +kernel
theorem d25_5 : decode jdk_29_method_65_code 5 = .ok (.iload_n 0, 1) := by decide +kernel
theorem d25_6 : decode jdk_29_method_65_code 6 = .ok (.goto 4, 3) := by decide +kernel
def fMax (x0 : Int32) (x1 : Int32) : Int32 := if x0 < x1 then x1 else x0
abbrev y25 : MethodName := (⟨"java/lang/Math", "max", "(II)I"⟩ : MethodName)
theorem rm25 {x0 x1 : Int32} (hw : OwnW a0 Z) (Z0 : n0 ≤ h0.size) : OwnMF l Z y25 jdk_29_method_65_code 2 (some .int) ws ⟨0, 0, 0, 0⟩ #[(.int x0), (.int x1)] h0 (OwnQ (some (.int (fMax x0 x1))) h0 n0) := by
  refine bo (Jvm.Free.JP.mathPlain rfl (by decide +kernel)) ?_
  intro p e s m below meth c T0 G C hnm hnamed X0 e0 K
  have N0 := Fr.nil n0
  refine Goes.to (congrArg T0.setTop (ef_25ii m x0 x1)) ?_
  refine g_iloadN C X0 d25_0 1 rfl ?_
  refine g_iloadN C X0 d25_1 2 rfl ?_
  refine g_icmp_lt C X0 d25_2 9 5 (fun hc2 => ?_) (fun hc2 => ?_)
  · refine g_iloadN C X0 d25_9 10 rfl ?_
    exact g_retI C X0 K d25_10 (by decide) (by decide) e0 ⟨by (unfold fMax; rw [if_pos hc2]) <;> rfl, N0, rfl⟩
  · refine g_iloadN C X0 d25_5 6 rfl ?_
    refine g_goto C X0 d25_6 10 ?_
    exact g_retI C X0 K d25_10 (by decide) (by decide) e0 ⟨by (unfold fMax; rw [if_neg hc2]) <;> rfl, N0, rfl⟩
theorem ef_27ii (m : MethodId) (a1 : Int32) (a2 : Int32) : entryFrame m #[(.int a1), (.int a2)] 2 = mkF m 0 #[iv a1, iv a2] [] := by first | (simp [entryFrame, mkF, argsToLocals, Value.category, iv, rv, jv, nv, uu, sd]; done) | rfl
theorem d27_0 : decode jdk_29_method_69_code 0 = .ok (.iload_n 0, 1) := by decide +kernel
theorem d27_1 : decode jdk_29_method_69_code 1 = .ok (.iload_n 1, 1) := by decide +kernel
theorem d27_2 : decode jdk_29_method_69_code 2 = .ok (.if_icmp .gt 7, 3) := by decide +kernel
theorem d27_9 : decode jdk_29_method_69_code 9 = .ok (.iload_n 1, 1) := by decide +kernel
theorem d27_10 : decode jdk_29_method_69_code 10 = .ok (.ireturn, 1) := by decide +kernel
theorem d27_5 : decode jdk_29_method_69_code 5 = .ok (.iload_n 0, 1) := by decide +kernel
theorem d27_6 : decode jdk_29_method_69_code 6 = .ok (.goto 4, 3) := by decide +kernel
def fMin (x0 : Int32) (x1 : Int32) : Int32 := if x1 < x0 then x1 else x0
abbrev y27 : MethodName := (⟨"java/lang/Math", "min", "(II)I"⟩ : MethodName)
theorem rm27 {x0 x1 : Int32} (hw : OwnW a0 Z) (Z0 : n0 ≤ h0.size) : OwnMF l Z y27 jdk_29_method_69_code 2 (some .int) ws ⟨0, 0, 0, 0⟩ #[(.int x0), (.int x1)] h0 (OwnQ (some (.int (fMin x0 x1))) h0 n0) := by
  refine bo (Jvm.Free.JP.mathPlain rfl (by decide +kernel)) ?_
  intro p e s m below meth c T0 G C hnm hnamed X0 e0 K
  have N0 := Fr.nil n0
  refine Goes.to (congrArg T0.setTop (ef_27ii m x0 x1)) ?_
  refine g_iloadN C X0 d27_0 1 rfl ?_
  refine g_iloadN C X0 d27_1 2 rfl ?_
  refine g_icmp_gt C X0 d27_2 9 5 (fun hc2 => ?_) (fun hc2 => ?_)
  · refine g_iloadN C X0 d27_9 10 rfl ?_
    exact g_retI C X0 K d27_10 (by decide) (by decide) e0 ⟨by (unfold fMin; rw [if_pos hc2]) <;> rfl, N0, rfl⟩
  · refine g_iloadN C X0 d27_5 6 rfl ?_
    refine g_goto C X0 d27_6 10 ?_
    exact g_retI C X0 K d27_10 (by decide) (by decide) e0 ⟨by (unfold fMin; rw [if_neg hc2]) <;> rfl, N0, rfl⟩
def capN (c m : Nat) : Nat := max m (c + (c + 2))
theorem max_eq (a b : Nat) (ha : a < 2 ^ 31) (hb : b < 2 ^ 31) : fMax (Int32.ofNat a) (Int32.ofNat b) = Int32.ofNat (max a b) := by
  unfold fMax
  by_cases h : a < b
  · rw [if_pos ((i_lt a b ha hb).mpr h), Nat.max_eq_right (Nat.le_of_lt h)]
  · rw [if_neg (fun q => h ((i_lt a b ha hb).mp q)), Nat.max_eq_left (Nat.le_of_not_lt h)]
theorem min_eq (a b : Nat) (ha : a < 2 ^ 31) (hb : b < 2 ^ 31) : fMin (Int32.ofNat a) (Int32.ofNat b) = Int32.ofNat (min a b) := by
  unfold fMin
  by_cases h : b < a
  · rw [if_pos ((i_lt b a hb ha).mpr h), Nat.min_eq_right (Nat.le_of_lt h)]
  · rw [if_neg (fun q => h ((i_lt b a hb ha).mp q)), Nat.min_eq_left (Nat.le_of_not_lt h)]
theorem cap_le {c m : Nat} (hcm : c < m) (hm : m ≤ 1000) : m ≤ capN c m ∧ capN c m ≤ 2002 := by unfold capN; omega
theorem own_shl0 (x : Int32) : x <<< ((0 : Int32) &&& 31) = x := by
  rw [← Int32.toInt_inj]; simp
theorem cap_eq {c m : Nat} {i : Int32} (hi : Int32.ofNat m = i) (hcm : c < m) (hm : m ≤ 1000) : Int32.ofNat c + fMax ((i <<< ((0 : Int32) &&& 31)) - Int32.ofNat c) (Int32.ofNat c + ((2 : Int32) <<< ((0 : Int32) &&& 31))) = Int32.ofNat (capN c m) := by
  subst hi
  rw [own_shl0, own_shl0, i_sub m c (Nat.le_of_lt hcm), show (2 : Int32) = Int32.ofNat 2 from rfl, i_add, max_eq _ _ (by omega) (by omega), i_add]
  congr 1; unfold capN; omega
theorem cap_pos {c m : Nat} (hcm : c < m) (hm : m ≤ 1000) : (0 : Int32) < Int32.ofNat (capN c m) := (i_lt 0 _ (by omega) (by have := cap_le hcm hm; omega)).mpr (by have := cap_le hcm hm; omega)
theorem cap_soft {c m : Nat} (hcm : c < m) (hm : m ≤ 1000) : ¬ (2147483639 : Int32) < Int32.ofNat (capN c m) := fun q => by
  have h := cap_le hcm hm
  have := (i_lt 2147483639 (capN c m) (by omega) (by omega)).mp q
  omega
theorem cap_ne {c m : Nat} (hcm : c < m) (hm : m ≤ 1000) : ¬ Int32.ofNat (capN c m) = (2147483647 : Int32) := fun q => by
  have h := cap_le hcm hm
  have e := congrArg Int32.toInt q
  rw [i_toInt _ (by omega)] at e
  have : (capN c m : Int) = 2147483647 := e
  omega
theorem cp_ne {c m : Nat} {i : Int32} (hi : Int32.ofNat m = i) (hcm : c < m) (hm : m ≤ 90) : ¬ i = Int32.ofNat c := fun q => by
  subst hi
  have e := congrArg Int32.toInt q
  rw [i_toInt _ (by omega), i_toInt _ (by omega)] at e
  omega
theorem cp_n {m : Nat} {i : Int32} (hi : Int32.ofNat m = i) (hm : m ≤ 90) : ¬ i < 0 := hi ▸ i_nn m (by omega)
theorem cp_cap {m : Nat} {i : Int32} (hi : Int32.ofNat m = i) (hm : m ≤ 90) : i.toNatClampNeg ≤ 90 := by subst hi; rw [i_toNat _ (by omega)]; exact hm
theorem cp_min {c m : Nat} {i : Int32} (hi : Int32.ofNat m = i) (hcm : c < m) (hm : m ≤ 90) : fMin (Int32.ofNat c) i = Int32.ofNat c := by subst hi; rw [min_eq _ _ (by omega) (by omega), Nat.min_eq_left (by omega)]
theorem cp_t {c m : Nat} {i : Int32} (hi : Int32.ofNat m = i) (hcm : c < m) (hm : m ≤ 90) : (fMin (Int32.ofNat c) i).toNatClampNeg = c := by rw [cp_min hi hcm hm, i_toNat _ (by omega)]
theorem cp_nn {c m : Nat} {i : Int32} (hi : Int32.ofNat m = i) (hcm : c < m) (hm : m ≤ 90) : ¬ fMin (Int32.ofNat c) i < 0 := by rw [cp_min hi hcm hm]; exact i_nn c (by omega)
theorem cp_h4 {c m : Nat} {i : Int32} (hi : Int32.ofNat m = i) (hcm : c < m) (hm : m ≤ 90) : (0 : Int32).toNatClampNeg + (fMin (Int32.ofNat c) i).toNatClampNeg ≤ (Int32.ofNat c).toNatClampNeg := by rw [cp_t hi hcm hm, i_toNat c (by omega)]; show 0 + c ≤ c; omega
theorem cp_h5 {c m : Nat} {i : Int32} (hi : Int32.ofNat m = i) (hcm : c < m) (hm : m ≤ 90) : (0 : Int32).toNatClampNeg + (fMin (Int32.ofNat c) i).toNatClampNeg ≤ (Int32.ofNat m).toNatClampNeg := by rw [cp_t hi hcm hm, i_toNat m (by omega)]; show 0 + c ≤ m; omega
theorem cp_hl {c m : Nat} {i : Int32} (hi : Int32.ofNat m = i) (hcm : c < m) (hm : m ≤ 90) : (0 : Int32).toNatClampNeg + (fMin (Int32.ofNat c) i).toNatClampNeg ≤ ([] ++ List.replicate m (Value.int 0)).length := by rw [cp_t hi hcm hm]; show 0 + c ≤ _; simp; omega
theorem cp_ll {c m : Nat} {i : Int32} {l : List Int32} (hi : Int32.ofNat m = i) (hcm : c < m) (hm : m ≤ 90) (hll : l.length ≤ c) : l.length ≤ (fMin (Int32.ofNat c) i).toNatClampNeg := by rw [cp_t hi hcm hm]; exact hll
theorem map_getD (l : List Int32) (k : Nat) : (l.map Value.int).getD k (.int 0) = .int (l.getD k 0) := by
  simp only [List.getD_eq_getElem?_getD, List.getElem?_map]; cases l[k]? <;> rfl
theorem raw_copy {l : List Int32} {m sp dp nn : Nat} (hs : sp = 0) (hd : dp = 0) (hl : l.length ≤ nn) : ∀ k, (l.map Value.int).getD k (.int 0) = ((([] ++ List.replicate m (Value.int 0)).take dp ++ (List.range nn).map (fun i => (l.map Value.int).getD (sp + i) (.int 0)) ++ ([] ++ List.replicate m (Value.int 0)).drop (dp + nn)).getD k (.int 0)) := by
  intro k
  subst hs hd
  simp only [List.nil_append, List.take_zero, Nat.zero_add, List.drop_replicate]
  rw [List.getD_eq_getElem?_getD, List.getD_eq_getElem?_getD]
  by_cases hk : k < nn
  · rw [List.getElem?_append_left (by simpa using hk), List.getElem?_map, List.getElem?_map, List.getElem?_range hk]
    simp only [Option.map_some, Option.getD_some]
    rw [map_getD, List.getD_eq_getElem?_getD]
    cases l[k]? <;> rfl
  · rw [List.getElem?_append_right (by simpa using Nat.le_of_not_lt hk), List.getElem?_map, List.getElem?_eq_none (by omega), List.getElem?_replicate]
    split <;> rfl

theorem ef_24iii (m : MethodId) (a1 : Int32) (a2 : Int32) (a3 : Int32) : entryFrame m #[(.int a1), (.int a2), (.int a3)] 4 = mkF m 0 #[iv a1, iv a2, iv a3, uu] [] := by first | (simp [entryFrame, mkF, argsToLocals, Value.category, iv, rv, jv, nv, uu, sd]; done) | rfl
theorem d24_0 : decode jdk_48_method_27_code 0 = .ok (.iload_n 0, 1) := by decide +kernel
theorem d24_1 : decode jdk_48_method_27_code 1 = .ok (.iload_n 1, 1) := by decide +kernel
theorem d24_2 : decode jdk_48_method_27_code 2 = .ok (.iload_n 2, 1) := by decide +kernel
theorem d24_3 : decode jdk_48_method_27_code 3 = .ok (.invokestatic 194, 3) := by decide +kernel
theorem w_141 {Z : State} {a0 : Array Value} (hw : ∀ d ∈ tables_1, d.before a0 Z = true) : Jvm.Cond.before (Jvm.Cond.code ({ cls := "java/lang/Math", name := "max", desc := "(II)I" } : Jvm.MethodName) jdk_29_method_65_code (2 : Nat) (Option.some Jvm.ClassFile.FieldType.int)) a0 Z = true := hw _ (List.mem_of_getElem? (i := 141) rfl)
theorem w_140 {Z : State} {a0 : Array Value} (hw : ∀ d ∈ tables_1, d.before a0 Z = true) : Jvm.Cond.before (Jvm.Cond.initialized "java/lang/Math") a0 Z = true := hw _ (List.mem_of_getElem? (i := 140) rfl)
theorem w_138 {Z : State} {a0 : Array Value} (hw : ∀ d ∈ tables_1, d.before a0 Z = true) : Jvm.Cond.before (Jvm.Cond.methodLink "jdk/internal/util/ArraysSupport" (194 : Nat) ({ cls := "java/lang/Math", name := "max", desc := "(II)I" } : Jvm.MethodName)) a0 Z = true := hw _ (List.mem_of_getElem? (i := 138) rfl)
theorem pd_2 : parseMethodDescriptor "(II)I" = some ⟨[.int, .int], some .int⟩ := by decide +kernel
theorem w_139 {Z : State} {a0 : Array Value} (hw : ∀ d ∈ tables_1, d.before a0 Z = true) : Jvm.Cond.before (Jvm.Cond.static ({ cls := "java/lang/Math", name := "max", desc := "(II)I" } : Jvm.MethodName)) a0 Z = true := hw _ (List.mem_of_getElem? (i := 139) rfl)
theorem b_1 (hw : OwnW a0 Z) : CallS "jdk/internal/util/ArraysSupport" 194 (⟨"java/lang/Math", "max", "(II)I"⟩ : MethodName) jdk_29_method_65_code (2 : Nat) (Option.some Jvm.ClassFile.FieldType.int) a0 Z := ⟨(w_138 hw), (w_139 hw), (w_140 hw), (w_141 hw)⟩
theorem d24_6 : decode jdk_48_method_27_code 6 = .ok (.iadd, 1) := by decide +kernel
theorem d24_7 : decode jdk_48_method_27_code 7 = .ok (.istore_n 3, 1) := by decide +kernel
theorem d24_8 : decode jdk_48_method_27_code 8 = .ok (.iconst 0, 1) := by decide +kernel
theorem d24_9 : decode jdk_48_method_27_code 9 = .ok (.iload_n 3, 1) := by decide +kernel
theorem d24_10 : decode jdk_48_method_27_code 10 = .ok (.if_icmp .ge 11, 3) := by decide +kernel
theorem d24_13 : decode jdk_48_method_27_code 13 = .ok (.iload_n 3, 1) := by decide +kernel
theorem d24_14 : decode jdk_48_method_27_code 14 = .ok (.ldc 200, 2) := by decide +kernel
theorem w_142 {Z : State} {a0 : Array Value} (hw : ∀ d ∈ tables_1, d.before a0 Z = true) : Jvm.Cond.before (Jvm.Cond.constant "jdk/internal/util/ArraysSupport" (200 : Nat) (2147483639 : Int32)) a0 Z = true := hw _ (List.mem_of_getElem? (i := 142) rfl)
theorem d24_16 : decode jdk_48_method_27_code 16 = .ok (.if_icmp .gt 5, 3) := by decide +kernel
theorem d24_19 : decode jdk_48_method_27_code 19 = .ok (.iload_n 3, 1) := by decide +kernel
theorem d24_20 : decode jdk_48_method_27_code 20 = .ok (.ireturn, 1) := by decide +kernel
abbrev y24 : MethodName := (⟨"jdk/internal/util/ArraysSupport", "newLength", "(III)I"⟩ : MethodName)
theorem pn_24 : plainName "jdk/internal/util/ArraysSupport" = true := by first | (simp [plainName, overriddenIn]; done) | decide +kernel
theorem rm24 {i1 i2 i3 r4 : Int32} (hw : OwnW a0 Z) (Z0 : n0 ≤ h0.size) (hm : i1 + fMax i2 i3 = r4) (hp : (0 : Int32) < r4) (hs : ¬ (2147483639 : Int32) < r4) : OwnMF l Z y24 jdk_48_method_27_code 4 (some .int) ws ⟨1, 0, 0, 14⟩ #[(.int i1), (.int i2), (.int i3)] h0 (OwnQ (some (.int r4)) h0 n0) := by
  refine bo (plainFor_of_name pn_24) ?_
  intro p e s m below meth c T0 G C hnm hnamed X0 e0 K
  have N0 := Fr.nil n0
  refine Goes.to (congrArg T0.setTop (ef_24iii m i1 i2 i3)) ?_
  refine g_iloadN C X0 d24_0 1 rfl ?_
  refine g_iloadN C X0 d24_1 2 rfl ?_
  refine g_iloadN C X0 d24_2 3 rfl ?_
  refine g_callS0 C X0 (b_1 hw) d24_3 [(.int i2), (.int i3)] [(.int i1)] 1 (rm25 hw Z0) N0 pd_2 e0 6 (fun T1 _ X1 N1 e1 => ?_)
  refine g_iadd C X1 d24_6 7 ?_
  refine g_istoreN C X1 d24_7 8 (w := (i1 + (fMax i2 i3))) rfl (ls' := #[iv i1, iv i2, iv i3, iv (i1 + (fMax i2 i3))]) rfl ?_
  refine g_iconst C X1 d24_8 9 (v := 0) rfl ?_
  refine g_iloadN C X1 d24_9 10 rfl ?_
  refine g_icmp_ge C X1 d24_10 21 13 (fun hc10 => absurd (hm ▸ hp) hc10) (fun hc10 => ?_)
  refine g_iloadN C X1 d24_13 14 rfl ?_
  refine g_ldc C X1 (w_142 hw) d24_14 16 ?_
  refine g_icmp_gt C X1 d24_16 21 19 (fun hc16 => absurd hc16 (hm ▸ hs)) (fun hc16 => ?_)
  refine g_iloadN C X1 d24_19 20 rfl ?_
  exact g_retI C X1 K d24_20 (by decide) (by decide) e1 ⟨(by rw [hm]), N1, rfl⟩
theorem ef_23ri (m : MethodId) (a1 : Addr) (a2 : Int32) : entryFrame m #[(.ref a1), (.int a2)] 6 = mkF m 0 #[rv a1, iv a2, uu, uu, uu, uu] [] := by first | (simp [entryFrame, mkF, argsToLocals, Value.category, iv, rv, jv, nv, uu, sd]; done) | rfl
theorem d23_0 : decode jdk_68_method_10_code 0 = .ok (.aload_n 0, 1) := by decide +kernel
theorem d23_1 : decode jdk_68_method_10_code 1 = .ok (.getfield 15, 3) := by decide +kernel
theorem d23_4 : decode jdk_68_method_10_code 4 = .ok (.arraylength, 1) := by decide +kernel
theorem d23_5 : decode jdk_68_method_10_code 5 = .ok (.istore_n 2, 1) := by decide +kernel
theorem d23_6 : decode jdk_68_method_10_code 6 = .ok (.iload_n 1, 1) := by decide +kernel
theorem d23_7 : decode jdk_68_method_10_code 7 = .ok (.aload_n 0, 1) := by decide +kernel
theorem d23_8 : decode jdk_68_method_10_code 8 = .ok (.getfield 22, 3) := by decide +kernel
theorem d23_11 : decode jdk_68_method_10_code 11 = .ok (.ishl, 1) := by decide +kernel
theorem d23_12 : decode jdk_68_method_10_code 12 = .ok (.istore_n 3, 1) := by decide +kernel
theorem d23_13 : decode jdk_68_method_10_code 13 = .ok (.iload_n 3, 1) := by decide +kernel
theorem d23_14 : decode jdk_68_method_10_code 14 = .ok (.iload_n 2, 1) := by decide +kernel
theorem d23_15 : decode jdk_68_method_10_code 15 = .ok (.isub, 1) := by decide +kernel
theorem d23_16 : decode jdk_68_method_10_code 16 = .ok (.istore 4, 2) := by decide +kernel
theorem d23_18 : decode jdk_68_method_10_code 18 = .ok (.iload_n 2, 1) := by decide +kernel
theorem d23_19 : decode jdk_68_method_10_code 19 = .ok (.iload 4, 2) := by decide +kernel
theorem d23_21 : decode jdk_68_method_10_code 21 = .ok (.iload_n 2, 1) := by decide +kernel
theorem d23_22 : decode jdk_68_method_10_code 22 = .ok (.iconst 2, 1) := by decide +kernel
theorem d23_23 : decode jdk_68_method_10_code 23 = .ok (.aload_n 0, 1) := by decide +kernel
theorem d23_24 : decode jdk_68_method_10_code 24 = .ok (.getfield 22, 3) := by decide +kernel
theorem d23_27 : decode jdk_68_method_10_code 27 = .ok (.ishl, 1) := by decide +kernel
theorem d23_28 : decode jdk_68_method_10_code 28 = .ok (.iadd, 1) := by decide +kernel
theorem d23_29 : decode jdk_68_method_10_code 29 = .ok (.invokestatic 114, 3) := by decide +kernel
theorem w_137 {Z : State} {a0 : Array Value} (hw : ∀ d ∈ tables_1, d.before a0 Z = true) : Jvm.Cond.before (Jvm.Cond.code ({ cls := "jdk/internal/util/ArraysSupport", name := "newLength", desc := "(III)I" } : Jvm.MethodName) jdk_48_method_27_code (4 : Nat) (Option.some Jvm.ClassFile.FieldType.int)) a0 Z = true := hw _ (List.mem_of_getElem? (i := 137) rfl)
theorem w_136 {Z : State} {a0 : Array Value} (hw : ∀ d ∈ tables_1, d.before a0 Z = true) : Jvm.Cond.before (Jvm.Cond.initialized "jdk/internal/util/ArraysSupport") a0 Z = true := hw _ (List.mem_of_getElem? (i := 136) rfl)
theorem w_134 {Z : State} {a0 : Array Value} (hw : ∀ d ∈ tables_1, d.before a0 Z = true) : Jvm.Cond.before (Jvm.Cond.methodLink "java/lang/AbstractStringBuilder" (114 : Nat) ({ cls := "jdk/internal/util/ArraysSupport", name := "newLength", desc := "(III)I" } : Jvm.MethodName)) a0 Z = true := hw _ (List.mem_of_getElem? (i := 134) rfl)
theorem pd_3 : parseMethodDescriptor "(III)I" = some ⟨[.int, .int, .int], some .int⟩ := by decide +kernel
theorem w_135 {Z : State} {a0 : Array Value} (hw : ∀ d ∈ tables_1, d.before a0 Z = true) : Jvm.Cond.before (Jvm.Cond.static ({ cls := "jdk/internal/util/ArraysSupport", name := "newLength", desc := "(III)I" } : Jvm.MethodName)) a0 Z = true := hw _ (List.mem_of_getElem? (i := 135) rfl)
theorem b_2 (hw : OwnW a0 Z) : CallS "java/lang/AbstractStringBuilder" 114 (⟨"jdk/internal/util/ArraysSupport", "newLength", "(III)I"⟩ : MethodName) jdk_48_method_27_code (4 : Nat) (Option.some Jvm.ClassFile.FieldType.int) a0 Z := ⟨(w_134 hw), (w_135 hw), (w_136 hw), (w_137 hw)⟩
theorem d23_32 : decode jdk_68_method_10_code 32 = .ok (.istore 5, 2) := by decide +kernel
theorem d23_34 : decode jdk_68_method_10_code 34 = .ok (.iload 5, 2) := by decide +kernel
theorem d23_36 : decode jdk_68_method_10_code 36 = .ok (.ldc 39, 2) := by decide +kernel
theorem w_143 {Z : State} {a0 : Array Value} (hw : ∀ d ∈ tables_1, d.before a0 Z = true) : Jvm.Cond.before (Jvm.Cond.constant "java/lang/AbstractStringBuilder" (39 : Nat) (2147483647 : Int32)) a0 Z = true := hw _ (List.mem_of_getElem? (i := 143) rfl)
theorem d23_38 : decode jdk_68_method_10_code 38 = .ok (.if_icmp .ne 13, 3) := by decide +kernel
theorem d23_51 : decode jdk_68_method_10_code 51 = .ok (.iload 5, 2) := by decide +kernel
theorem d23_53 : decode jdk_68_method_10_code 53 = .ok (.aload_n 0, 1) := by decide +kernel
theorem d23_54 : decode jdk_68_method_10_code 54 = .ok (.getfield 22, 3) := by decide +kernel
theorem d23_57 : decode jdk_68_method_10_code 57 = .ok (.ishr, 1) := by decide +kernel
theorem d23_58 : decode jdk_68_method_10_code 58 = .ok (.ireturn, 1) := by decide +kernel
abbrev y23 : MethodName := (⟨"java/lang/AbstractStringBuilder", "newCapacity", "(I)I"⟩ : MethodName)
theorem rm23 {o1 o2 : Addr} {i1 : Int32} {kd1 : ClassId} {c1 m1 : Nat} {l1 : List Int32} (hw : OwnW a0 Z) (Z0 : n0 ≤ h0.size) (F0 : Fld Z h0 o1 "java/lang/AbstractStringBuilder" "value" "[B" (.ref o2)) (F1 : Fld Z h0 o1 "java/lang/AbstractStringBuilder" "coder" "B" (.int 0)) (F2 : Arv Z h0 o2 kd1 .byte (Int32.ofNat c1) (l1.map Value.int) (.int 0)) (hi : Int32.ofNat m1 = i1) (hcm : c1 < m1) (hm : m1 ≤ 1000) : OwnMF l Z y23 jdk_68_method_10_code 6 (some .int) ws ⟨2, 0, 0, 29⟩ #[(.ref o1), (.int i1)] h0 (OwnQ (some (.int (Int32.ofNat (capN c1 m1)))) h0 n0) := by
  refine bo (plainFor_of_name pn_9) ?_
  intro p e s m below meth c T0 G C hnm hnamed X0 e0 K
  have N0 := Fr.nil n0
  refine Goes.to (congrArg T0.setTop (ef_23ri m o1 i1)) ?_
  refine g_aloadN C X0 d23_0 1 rfl rfl ?_
  refine g_getF C X0 (w_51 hw) Via.refl e0 F0 d23_1 4 (fun T1 X1 e1 => ?_)
  refine g_arraylength C X1 e1 F2 d23_4 5 ?_
  refine g_istoreN C X1 d23_5 6 (w := (Int32.ofNat c1)) rfl (ls' := #[rv o1, iv i1, iv (Int32.ofNat c1), uu, uu, uu]) rfl ?_
  refine g_iloadN C X1 d23_6 7 rfl ?_
  refine g_aloadN C X1 d23_7 8 rfl rfl ?_
  refine g_getF C X1 (w_53 hw) Via.refl e1 F1 d23_8 11 (fun T2 X2 e2 => ?_)
  refine g_ishl C X2 d23_11 12 ?_
  refine g_istoreN C X2 d23_12 13 (w := (i1 <<< ((0 : Int32) &&& 31))) rfl (ls' := #[rv o1, iv i1, iv (Int32.ofNat c1), iv (i1 <<< ((0 : Int32) &&& 31)), uu, uu]) rfl ?_
  refine g_iloadN C X2 d23_13 14 rfl ?_
  refine g_iloadN C X2 d23_14 15 rfl ?_
  refine g_isub C X2 d23_15 16 ?_
  refine g_istore C X2 d23_16 18 (w := ((i1 <<< ((0 : Int32) &&& 31)) - (Int32.ofNat c1))) rfl (ls' := #[rv o1, iv i1, iv (Int32.ofNat c1), iv (i1 <<< ((0 : Int32) &&& 31)), iv ((i1 <<< ((0 : Int32) &&& 31)) - (Int32.ofNat c1)), uu]) rfl ?_
  refine g_iloadN C X2 d23_18 19 rfl ?_
  refine g_iload C X2 d23_19 21 rfl ?_
  refine g_iloadN C X2 d23_21 22 rfl ?_
  refine g_iconst C X2 d23_22 23 (v := 2) rfl ?_
  refine g_aloadN C X2 d23_23 24 rfl rfl ?_
  refine g_getF C X2 (w_53 hw) Via.refl e2 F1 d23_24 27 (fun T3 X3 e3 => ?_)
  refine g_ishl C X3 d23_27 28 ?_
  refine g_iadd C X3 d23_28 29 ?_
  refine g_callS0 C X3 (b_2 hw) d23_29 [(.int (Int32.ofNat c1)), (.int ((i1 <<< ((0 : Int32) &&& 31)) - (Int32.ofNat c1))), (.int ((Int32.ofNat c1) + ((2 : Int32) <<< ((0 : Int32) &&& 31))))] [] 0 (rm24 hw Z0 (cap_eq hi hcm hm) (cap_pos hcm hm) (cap_soft hcm hm)) N0 pd_3 e3 32 (fun T4 _ X4 N4 e4 => ?_)
  refine g_istore C X4 d23_32 34 (w := (Int32.ofNat (capN c1 m1))) rfl (ls' := #[rv o1, iv i1, iv (Int32.ofNat c1), iv (i1 <<< ((0 : Int32) &&& 31)), iv ((i1 <<< ((0 : Int32) &&& 31)) - (Int32.ofNat c1)), iv (Int32.ofNat (capN c1 m1))]) rfl ?_
  refine g_iload C X4 d23_34 36 rfl ?_
  refine g_ldc C X4 (w_143 hw) d23_36 38 ?_
  refine g_icmp_ne C X4 d23_38 51 41 (fun hc38 => ?_) (fun hc38 => absurd hc38 (cap_ne hcm hm))
  refine g_iload C X4 d23_51 53 rfl ?_
  refine g_aloadN C X4 d23_53 54 rfl rfl ?_
  refine g_getF C X4 (w_53 hw) Via.refl e4 F1 d23_54 57 (fun T5 X5 e5 => ?_)
  refine g_ishr C X5 d23_57 58 ?_
  exact g_retI C X5 K d23_58 (by decide) (by decide) e5 ⟨(by rw [own_shr0]), N4, rfl⟩
theorem ef_26ri (m : MethodId) (a1 : Addr) (a2 : Int32) : entryFrame m #[(.ref a1), (.int a2)] 3 = mkF m 0 #[rv a1, iv a2, uu] [] := by first | (simp [entryFrame, mkF, argsToLocals, Value.category, iv, rv, jv, nv, uu, sd]; done) | rfl
theorem d26_0 : decode jdk_65_method_121_code 0 = .ok (.iload_n 1, 1) := by decide +kernel
theorem d26_1 : decode jdk_65_method_121_code 1 = .ok (.aload_n 0, 1) := by decide +kernel
theorem d26_2 : decode jdk_65_method_121_code 2 = .ok (.arraylength, 1) := by decide +kernel
theorem d26_3 : decode jdk_65_method_121_code 3 = .ok (.if_icmp .ne 11, 3) := by decide +kernel
theorem d26_14 : decode jdk_65_method_121_code 14 = .ok (.iload_n 1, 1) := by decide +kernel
theorem d26_15 : decode jdk_65_method_121_code 15 = .ok (.newarray .byte, 2) := by decide +kernel
theorem d26_17 : decode jdk_65_method_121_code 17 = .ok (.astore_n 2, 1) := by decide +kernel
theorem d26_18 : decode jdk_65_method_121_code 18 = .ok (.aload_n 0, 1) := by decide +kernel
theorem d26_19 : decode jdk_65_method_121_code 19 = .ok (.iconst 0, 1) := by decide +kernel
theorem d26_20 : decode jdk_65_method_121_code 20 = .ok (.aload_n 2, 1) := by decide +kernel
theorem d26_21 : decode jdk_65_method_121_code 21 = .ok (.iconst 0, 1) := by decide +kernel
theorem d26_22 : decode jdk_65_method_121_code 22 = .ok (.aload_n 0, 1) := by decide +kernel
theorem d26_23 : decode jdk_65_method_121_code 23 = .ok (.arraylength, 1) := by decide +kernel
theorem d26_24 : decode jdk_65_method_121_code 24 = .ok (.iload_n 1, 1) := by decide +kernel
theorem d26_25 : decode jdk_65_method_121_code 25 = .ok (.invokestatic 304, 3) := by decide +kernel
theorem w_150 {Z : State} {a0 : Array Value} (hw : ∀ d ∈ tables_1, d.before a0 Z = true) : Jvm.Cond.before (Jvm.Cond.code ({ cls := "java/lang/Math", name := "min", desc := "(II)I" } : Jvm.MethodName) jdk_29_method_69_code (2 : Nat) (Option.some Jvm.ClassFile.FieldType.int)) a0 Z = true := hw _ (List.mem_of_getElem? (i := 150) rfl)
theorem w_148 {Z : State} {a0 : Array Value} (hw : ∀ d ∈ tables_1, d.before a0 Z = true) : Jvm.Cond.before (Jvm.Cond.methodLink "java/util/Arrays" (304 : Nat) ({ cls := "java/lang/Math", name := "min", desc := "(II)I" } : Jvm.MethodName)) a0 Z = true := hw _ (List.mem_of_getElem? (i := 148) rfl)
theorem w_149 {Z : State} {a0 : Array Value} (hw : ∀ d ∈ tables_1, d.before a0 Z = true) : Jvm.Cond.before (Jvm.Cond.static ({ cls := "java/lang/Math", name := "min", desc := "(II)I" } : Jvm.MethodName)) a0 Z = true := hw _ (List.mem_of_getElem? (i := 149) rfl)
theorem b_3 (hw : OwnW a0 Z) : CallS "java/util/Arrays" 304 (⟨"java/lang/Math", "min", "(II)I"⟩ : MethodName) jdk_29_method_69_code (2 : Nat) (Option.some Jvm.ClassFile.FieldType.int) a0 Z := ⟨(w_148 hw), (w_149 hw), (w_140 hw), (w_150 hw)⟩
theorem d26_28 : decode jdk_65_method_121_code 28 = .ok (.invokestatic 150, 3) := by decide +kernel
theorem w_151 {Z : State} {a0 : Array Value} (hw : ∀ d ∈ tables_1, d.before a0 Z = true) : Jvm.Cond.before (Jvm.Cond.methodLink "java/util/Arrays" (150 : Nat) ({ cls := "java/lang/System", name := "arraycopy", desc := "(Ljava/lang/Object;ILjava/lang/Object;II)V" } : Jvm.MethodName)) a0 Z = true := hw _ (List.mem_of_getElem? (i := 151) rfl)
theorem w_104 {Z : State} {a0 : Array Value} (hw : ∀ d ∈ tables_1, d.before a0 Z = true) : Jvm.Cond.before (Jvm.Cond.native ({ cls := "java/lang/System", name := "arraycopy", desc := "(Ljava/lang/Object;ILjava/lang/Object;II)V" } : Jvm.MethodName)) a0 Z = true := hw _ (List.mem_of_getElem? (i := 104) rfl)
theorem w_102 {Z : State} {a0 : Array Value} (hw : ∀ d ∈ tables_1, d.before a0 Z = true) : Jvm.Cond.before (Jvm.Cond.static ({ cls := "java/lang/System", name := "arraycopy", desc := "(Ljava/lang/Object;ILjava/lang/Object;II)V" } : Jvm.MethodName)) a0 Z = true := hw _ (List.mem_of_getElem? (i := 102) rfl)
theorem w_103 {Z : State} {a0 : Array Value} (hw : ∀ d ∈ tables_1, d.before a0 Z = true) : Jvm.Cond.before (Jvm.Cond.initialized "java/lang/System") a0 Z = true := hw _ (List.mem_of_getElem? (i := 103) rfl)
theorem d26_31 : decode jdk_65_method_121_code 31 = .ok (.aload_n 2, 1) := by decide +kernel
theorem d26_32 : decode jdk_65_method_121_code 32 = .ok (.areturn, 1) := by decide +kernel
def Q26 (Z : State) (o1 : Addr) (i1 : Int32) (kd1 : ClassId) (c1 : Nat) (m1 : Nat) (l1 : List Int32) (h0 : Heap) (n0 : Nat) (v : Option Value) (h : Heap) (L : List Loc) : Prop := ∃ (o3 : Addr) (kd3 : ClassId), v = some (.ref o3) ∧ Fr n0 L ∧ h0.size ≤ o3 ∧ Keep h0 h [] ∧ Arv Z h o3 kd3 .byte (Int32.ofNat m1) (l1.map Value.int) (.int 0) ∧ Exa Z h o3 "[B"
abbrev y26 : MethodName := (⟨"java/util/Arrays", "copyOf", "([BI)[B"⟩ : MethodName)
theorem pn_26 : plainName "java/util/Arrays" = true := by first | (simp [plainName, overriddenIn]; done) | decide +kernel
theorem rm26 {o1 : Addr} {i1 : Int32} {kd1 : ClassId} {c1 m1 : Nat} {l1 : List Int32} (hw : OwnW a0 Z) (Z0 : n0 ≤ h0.size) (F0 : Arv Z h0 o1 kd1 .byte (Int32.ofNat c1) (l1.map Value.int) (.int 0)) (hi : Int32.ofNat m1 = i1) (hcm : c1 < m1) (hm : m1 ≤ 90) (hll : l1.length ≤ c1) : OwnMF l Z y26 jdk_65_method_121_code 3 (some (.array .byte)) ws ⟨1, 1, 90, 18⟩ #[(.ref o1), (.int i1)] h0 (Q26 Z o1 i1 kd1 c1 m1 l1 h0 n0) := by
  refine bo (plainFor_of_name pn_26) ?_
  intro p e s m below meth c T0 G C hnm hnamed X0 e0 K
  have N0 := Fr.nil n0
  refine Goes.to (congrArg T0.setTop (ef_26ri m o1 i1)) ?_
  have K00 := Keep.refl h0 []
  refine g_iloadN C X0 d26_0 1 rfl ?_
  refine g_aloadN C X0 d26_1 2 rfl rfl ?_
  refine g_arraylength C X0 e0 F0 d26_2 3 ?_
  refine g_icmp_ne C X0 d26_3 14 6 (fun hc3 => ?_) (fun hc3 => absurd hc3 (cp_ne hi hcm hm))
  refine g_iloadN C X0 d26_14 15 rfl ?_
  refine g_newAE (aty := .byte) (n := i1) C X0 (cap := 90) (w_16 hw) rfl e0 d26_15 17 (cp_n hi hm) (cp_cap hi hm) (by decide) (by decide) (by decide) (fun T1 h1 b1 ki1 X1 e1 g1 E1 A1 U1 => ?_)
  have f3 := F0.ext E1
  have gn_b1 : n0 ≤ b1 := Nat.le_trans Z0 (Nat.le_of_eq g1.symm)
  have Z1 := Nat.le_trans Z0 E1.1
  have sz_b1 : h0.size ≤ b1 := Nat.le_trans K00.1 (Nat.le_of_eq g1.symm)
  have K1 := K00.ext E1
  have f4 : Arv Z h1 b1 ki1 .byte (Int32.ofNat m1) [] (.int 0) := hi.symm ▸ A1
  refine g_astoreN C X1 d26_17 18 rfl (ls' := #[rv o1, iv i1, rv b1]) rfl ?_
  refine g_aloadN C X1 d26_18 19 rfl rfl ?_
  refine g_iconst C X1 d26_19 20 (v := 0) rfl ?_
  refine g_aloadN C X1 d26_20 21 rfl rfl ?_
  refine g_iconst C X1 d26_21 22 (v := 0) rfl ?_
  refine g_aloadN C X1 d26_22 23 rfl rfl ?_
  refine g_arraylength C X1 e1 f3 d26_23 24 ?_
  refine g_iloadN C X1 d26_24 25 rfl ?_
  refine g_callS0 C X1 (b_3 hw) d26_25 [(.int (Int32.ofNat c1)), (.int i1)] [(.int 0), (.ref b1), (.int 0), (.ref o1)] 4 (rm27 hw Z1) N0 pd_2 e1 28 (fun T5 _ X5 N5 e5 => ?_)
  have fb := f4.pad (pad_rep [] (.int 0) m1)
  refine g_acopy C X5 (w_151 hw) (w_104 hw) (w_102 hw) (w_103 hw) e5 f3 fb rfl (by decide) (by decide) (cp_nn hi hcm hm) (cp_h4 hi hcm hm) (cp_h5 hi hcm hm) rfl (cp_hl hi hcm hm) rfl N5 gn_b1 rfl d26_28 31 (by decide) (W := 0) (Nat.le_of_eq rfl) (by decide) (fun T6 h6 L6 X6 e6 N6 Kq6 V6 => ?_)
  have f7 : Arv Z h6 b1 ki1 .byte (Int32.ofNat m1) (l1.map Value.int) (.int 0) := V6.pad (raw_copy rfl rfl (cp_ll hi hcm hm hll))
  have f9 := U1.keep Kq6
  have K6 := K1.trans Kq6 (allS (Or.inr sz_b1) all0)
  refine g_aloadN C X6 d26_31 32 rfl rfl ?_
  exact g_retA C X6 K rfl rfl rfl d26_32 (by decide) (by decide) e6 ⟨b1, ki1, rfl, N6, sz_b1, K6, f7, f9⟩
theorem ens_iff {c m : Nat} {i : Int32} (hi : Int32.ofNat m = i) (hm : m ≤ 45) (hc : c ≤ 90) : (0 : Int32) < i - (Int32.ofNat c >>> ((0 : Int32) &&& 31)) ↔ c < m := by
  subst hi
  rw [own_shr0, Int32.lt_iff_toInt_lt, Int32.toInt_sub, i_toInt _ (by omega), i_toInt _ (by omega), Int.bmod_eq_of_le (by omega) (by omega)]
  show (0 : Int) < _ ↔ _
  omega
theorem ens_lt {c m : Nat} {i : Int32} (hi : Int32.ofNat m = i) (hm : m ≤ 45) (hc : c ≤ 90) (h : (0 : Int32) < i - (Int32.ofNat c >>> ((0 : Int32) &&& 31))) : c < m := (ens_iff hi hm hc).mp h
theorem ens_ge {c m : Nat} {i : Int32} (hi : Int32.ofNat m = i) (hm : m ≤ 45) (hc : c ≤ 90) (h : ¬ (0 : Int32) < i - (Int32.ofNat c >>> ((0 : Int32) &&& 31))) : m ≤ c := Nat.le_of_not_lt fun q => h ((ens_iff hi hm hc).mpr q)
theorem ens_grow {c m : Nat} {i : Int32} (hi : Int32.ofNat m = i) (hm : m ≤ 45) (hc : c ≤ 90) (h : (0 : Int32) < i - (Int32.ofNat c >>> ((0 : Int32) &&& 31))) : m ≤ capN c m ∧ capN c m ≤ 90 := by
  have := ens_lt hi hm hc h; unfold capN; omega
theorem ens_cap {c m : Nat} {i : Int32} (hi : Int32.ofNat m = i) (hm : m ≤ 45) (hc : c ≤ 90) (h : (0 : Int32) < i - (Int32.ofNat c >>> ((0 : Int32) &&& 31))) : c < capN c m := by
  have := ens_lt hi hm hc h; unfold capN; omega

theorem ef_14ri (m : MethodId) (a1 : Addr) (a2 : Int32) : entryFrame m #[(.ref a1), (.int a2)] 3 = mkF m 0 #[rv a1, iv a2, uu] [] := by first | (simp [entryFrame, mkF, argsToLocals, Value.category, iv, rv, jv, nv, uu, sd]; done) | rfl
theorem d14_0 : decode jdk_68_method_9_code 0 = .ok (.aload_n 0, 1) := by decide +kernel
theorem d14_1 : decode jdk_68_method_9_code 1 = .ok (.getfield 15, 3) := by decide +kernel
theorem d14_4 : decode jdk_68_method_9_code 4 = .ok (.arraylength, 1) := by decide +kernel
theorem d14_5 : decode jdk_68_method_9_code 5 = .ok (.aload_n 0, 1) := by decide +kernel
theorem d14_6 : decode jdk_68_method_9_code 6 = .ok (.getfield 22, 3) := by decide +kernel
theorem d14_9 : decode jdk_68_method_9_code 9 = .ok (.ishr, 1) := by decide +kernel
theorem d14_10 : decode jdk_68_method_9_code 10 = .ok (.istore_n 2, 1) := by decide +kernel
theorem d14_11 : decode jdk_68_method_9_code 11 = .ok (.iload_n 1, 1) := by decide +kernel
theorem d14_12 : decode jdk_68_method_9_code 12 = .ok (.iload_n 2, 1) := by decide +kernel
theorem d14_13 : decode jdk_68_method_9_code 13 = .ok (.isub, 1) := by decide +kernel
theorem d14_14 : decode jdk_68_method_9_code 14 = .ok (.ifCond .le 24, 3) := by decide +kernel
theorem d14_38 : decode jdk_68_method_9_code 38 = .ok (.return_, 1) := by decide +kernel
theorem d14_17 : decode jdk_68_method_9_code 17 = .ok (.aload_n 0, 1) := by decide +kernel
theorem d14_18 : decode jdk_68_method_9_code 18 = .ok (.aload_n 0, 1) := by decide +kernel
theorem d14_19 : decode jdk_68_method_9_code 19 = .ok (.getfield 15, 3) := by decide +kernel
theorem d14_22 : decode jdk_68_method_9_code 22 = .ok (.aload_n 0, 1) := by decide +kernel
theorem d14_23 : decode jdk_68_method_9_code 23 = .ok (.iload_n 1, 1) := by decide +kernel
theorem d14_24 : decode jdk_68_method_9_code 24 = .ok (.invokevirtual 104, 3) := by decide +kernel
theorem w_133 {Z : State} {a0 : Array Value} (hw : ∀ d ∈ tables_1, d.before a0 Z = true) : Jvm.Cond.before (Jvm.Cond.code ({ cls := "java/lang/AbstractStringBuilder", name := "newCapacity", desc := "(I)I" } : Jvm.MethodName) jdk_68_method_10_code (6 : Nat) (Option.some Jvm.ClassFile.FieldType.int)) a0 Z = true := hw _ (List.mem_of_getElem? (i := 133) rfl)
theorem w_129 {Z : State} {a0 : Array Value} (hw : ∀ d ∈ tables_1, d.before a0 Z = true) : Jvm.Cond.before (Jvm.Cond.methodLink "java/lang/AbstractStringBuilder" (104 : Nat) ({ cls := "java/lang/AbstractStringBuilder", name := "newCapacity", desc := "(I)I" } : Jvm.MethodName)) a0 Z = true := hw _ (List.mem_of_getElem? (i := 129) rfl)
theorem pd_4 : parseMethodDescriptor "(I)I" = some ⟨[.int], some .int⟩ := by decide +kernel
theorem w_130 {Z : State} {a0 : Array Value} (hw : ∀ d ∈ tables_1, d.before a0 Z = true) : Jvm.Cond.before (Jvm.Cond.instanceMethod ({ cls := "java/lang/AbstractStringBuilder", name := "newCapacity", desc := "(I)I" } : Jvm.MethodName)) a0 Z = true := hw _ (List.mem_of_getElem? (i := 130) rfl)
theorem w_132 {Z : State} {a0 : Array Value} (hw : ∀ d ∈ tables_1, d.before a0 Z = true) : Jvm.Cond.before (Jvm.Cond.selects "java/lang/StringBuilder" ({ cls := "java/lang/AbstractStringBuilder", name := "newCapacity", desc := "(I)I" } : Jvm.MethodName) ({ cls := "java/lang/AbstractStringBuilder", name := "newCapacity", desc := "(I)I" } : Jvm.MethodName)) a0 Z = true := hw _ (List.mem_of_getElem? (i := 132) rfl)
theorem b_4 (hw : OwnW a0 Z) : CallV "java/lang/AbstractStringBuilder" 104 (⟨"java/lang/AbstractStringBuilder", "newCapacity", "(I)I"⟩ : MethodName) "java/lang/StringBuilder" jdk_68_method_10_code (6 : Nat) (Option.some Jvm.ClassFile.FieldType.int) a0 Z := ⟨(w_129 hw), (declares_of (w_130 hw) (w_133 hw)), (w_132 hw), (w_130 hw), (w_133 hw), (w_47 hw)⟩
theorem d14_27 : decode jdk_68_method_9_code 27 = .ok (.aload_n 0, 1) := by decide +kernel
theorem d14_28 : decode jdk_68_method_9_code 28 = .ok (.getfield 22, 3) := by decide +kernel
theorem d14_31 : decode jdk_68_method_9_code 31 = .ok (.ishl, 1) := by decide +kernel
theorem d14_32 : decode jdk_68_method_9_code 32 = .ok (.invokestatic 108, 3) := by decide +kernel
theorem w_147 {Z : State} {a0 : Array Value} (hw : ∀ d ∈ tables_1, d.before a0 Z = true) : Jvm.Cond.before (Jvm.Cond.code ({ cls := "java/util/Arrays", name := "copyOf", desc := "([BI)[B" } : Jvm.MethodName) jdk_65_method_121_code (3 : Nat) (Option.some (Jvm.ClassFile.FieldType.array Jvm.ClassFile.FieldType.byte))) a0 Z = true := hw _ (List.mem_of_getElem? (i := 147) rfl)
theorem w_146 {Z : State} {a0 : Array Value} (hw : ∀ d ∈ tables_1, d.before a0 Z = true) : Jvm.Cond.before (Jvm.Cond.initialized "java/util/Arrays") a0 Z = true := hw _ (List.mem_of_getElem? (i := 146) rfl)
theorem w_144 {Z : State} {a0 : Array Value} (hw : ∀ d ∈ tables_1, d.before a0 Z = true) : Jvm.Cond.before (Jvm.Cond.methodLink "java/lang/AbstractStringBuilder" (108 : Nat) ({ cls := "java/util/Arrays", name := "copyOf", desc := "([BI)[B" } : Jvm.MethodName)) a0 Z = true := hw _ (List.mem_of_getElem? (i := 144) rfl)
theorem pd_5 : parseMethodDescriptor "([BI)[B" = some ⟨[(.array .byte), .int], some (.array .byte)⟩ := by decide +kernel
theorem w_145 {Z : State} {a0 : Array Value} (hw : ∀ d ∈ tables_1, d.before a0 Z = true) : Jvm.Cond.before (Jvm.Cond.static ({ cls := "java/util/Arrays", name := "copyOf", desc := "([BI)[B" } : Jvm.MethodName)) a0 Z = true := hw _ (List.mem_of_getElem? (i := 145) rfl)
theorem d14_35 : decode jdk_68_method_9_code 35 = .ok (.putfield 15, 3) := by decide +kernel
def Q14 (Z : State) (o1 : Addr) (i1 : Int32) (o2 : Addr) (kd1 : ClassId) (c1 : Nat) (m1 : Nat) (l1 : List Int32) (ct1 : Int32) (h0 : Heap) (n0 : Nat) (v : Option Value) (h : Heap) (L : List Loc) : Prop := ∃ (o3 : Addr) (kd3 : ClassId) (c3 : Nat), v = none ∧ Fr n0 L ∧ (o3 = o2 ∨ h0.size ≤ o3) ∧ Keep h0 h [o1] ∧ Fld Z h o1 "java/lang/AbstractStringBuilder" "value" "[B" (.ref o3) ∧ Fld Z h o1 "java/lang/AbstractStringBuilder" "coder" "B" (.int 0) ∧ Fld Z h o1 "java/lang/AbstractStringBuilder" "count" "I" (.int ct1) ∧ Arv Z h o3 kd3 .byte (Int32.ofNat c3) (l1.map Value.int) (.int 0) ∧ Exa Z h o3 "[B" ∧ m1 ≤ c3 ∧ c3 ≤ 90
abbrev y14 : MethodName := (⟨"java/lang/AbstractStringBuilder", "ensureCapacityInternal", "(I)V"⟩ : MethodName)
theorem rm14 {o1 o2 : Addr} {i1 ct1 : Int32} {kd1 : ClassId} {c1 m1 : Nat} {l1 : List Int32} (hw : OwnW a0 Z) (Z0 : n0 ≤ h0.size) (F0 : Exa Z h0 o1 "java/lang/StringBuilder") (F1 : Fld Z h0 o1 "java/lang/AbstractStringBuilder" "value" "[B" (.ref o2)) (F2 : Fld Z h0 o1 "java/lang/AbstractStringBuilder" "coder" "B" (.int 0)) (F3 : Fld Z h0 o1 "java/lang/AbstractStringBuilder" "count" "I" (.int ct1)) (F4 : Arv Z h0 o2 kd1 .byte (Int32.ofNat c1) (l1.map Value.int) (.int 0)) (F5 : Exa Z h0 o2 "[B") (gn_o1 : n0 ≤ o1) (hi : Int32.ofNat m1 = i1) (hm : m1 ≤ 45) (hc : c1 ≤ 90) (hll : l1.length ≤ c1) (ne_o1_o2 : o1 ≠ o2) : OwnMF l Z y14 jdk_68_method_9_code 3 none ws ⟨3, 1, 90, 48⟩ #[(.ref o1), (.int i1)] h0 (Q14 Z o1 i1 o2 kd1 c1 m1 l1 ct1 h0 n0) := by
  refine bo (plainFor_of_name pn_9) ?_
  intro p e s m below meth c T0 G C hnm hnamed X0 e0 K
  have N0 := Fr.nil n0
  refine Goes.to (congrArg T0.setTop (ef_14ri m o1 i1)) ?_
  have K00 := Keep.refl h0 [o1]
  refine g_aloadN C X0 d14_0 1 rfl rfl ?_
  refine g_getF C X0 (w_51 hw) Via.refl e0 F1 d14_1 4 (fun T1 X1 e1 => ?_)
  refine g_arraylength C X1 e1 F4 d14_4 5 ?_
  refine g_aloadN C X1 d14_5 6 rfl rfl ?_
  refine g_getF C X1 (w_53 hw) Via.refl e1 F2 d14_6 9 (fun T2 X2 e2 => ?_)
  refine g_ishr C X2 d14_9 10 ?_
  refine g_istoreN C X2 d14_10 11 (w := ((Int32.ofNat c1) >>> ((0 : Int32) &&& 31))) rfl (ls' := #[rv o1, iv i1, iv ((Int32.ofNat c1) >>> ((0 : Int32) &&& 31))]) rfl ?_
  refine g_iloadN C X2 d14_11 12 rfl ?_
  refine g_iloadN C X2 d14_12 13 rfl ?_
  refine g_isub C X2 d14_13 14 ?_
  refine g_if_le C X2 d14_14 38 17 (fun hc14 => ?_) (fun hc14 => ?_)
  · exact g_retV C X2 K d14_38 (by decide) (by decide) e2 ⟨o2, kd1, c1, rfl, N0, (Or.inl rfl), K00, F1, F2, F3, F4, F5, (ens_ge hi hm hc hc14), hc⟩
  · refine g_aloadN C X2 d14_17 18 rfl rfl ?_
    refine g_aloadN C X2 d14_18 19 rfl rfl ?_
    refine g_getF C X2 (w_51 hw) Via.refl e2 F1 d14_19 22 (fun T3 X3 e3 => ?_)
    refine g_aloadN C X3 d14_22 23 rfl rfl ?_
    refine g_iloadN C X3 d14_23 24 rfl ?_
    refine g_callV0 C X3 (b_4 hw) F0 d14_24 [(.int i1)] [(.ref o2), (.ref o1)] 2 (rm23 hw Z0 F1 F2 F4 hi (ens_lt hi hm hc hc14) (Nat.le_trans hm (by decide))) N0 pd_4 e3 27 (fun T4 _ X4 N4 e4 => ?_)
    refine g_aloadN C X4 d14_27 28 rfl rfl ?_
    refine g_getF C X4 (w_53 hw) Via.refl e4 F2 d14_28 31 (fun T5 X5 e5 => ?_)
    refine g_ishl C X5 d14_31 32 ?_
    refine g_callS C X5 (w_144 hw) (w_145 hw) (w_146 hw) (w_147 hw) d14_32 [(.ref o2), (.int ((Int32.ofNat (capN c1 m1)) <<< ((0 : Int32) &&& 31)))] [(.ref o1)] 1 (rm26 hw Z0 F4 (own_shl0 _).symm (ens_cap hi hm hc hc14) (ens_grow hi hm hc hc14).2 hll) pd_5 e5 35 (fun u6 T6 L6 X6 hQ6 => ?_)
    obtain ⟨o36, kd36, rfl, Nq6, szo36, Kq6, q6_0, q6_1⟩ := hQ6
    have N6 := Fr.app N4 Nq6
    have n7 : o1 ≠ o36 := Nat.ne_of_lt (Nat.lt_of_lt_of_le F0.lt szo36)
    have f9 := F0.keep Kq6
    have f10 := F1.keep Kq6 nin0
    have f11 := F2.keep Kq6 nin0
    have f12 := F3.keep Kq6 nin0
    have sz_o36 : h0.size ≤ o36 := Nat.le_trans K00.1 szo36
    have K6 := K00.trans Kq6 all0
    refine ret1 ?_
    refine g_putF C X6 (w_51 hw) Via.refl rfl f10 f9 (Or.inl (w_52 hw)) (w_38 hw) (ty := (.array .byte)) (by decide) rfl rfl d14_35 38 (fun T15 h15 X15 e15 W15 => ?_)
    have f17 := f10.same W15
    have f18 := f11.other W15 (Or.inr (slot_ne (Or.inl (w_54 hw)) (Or.inl (w_52 hw)) (by decide) (t := .byte) (t' := (.array .byte)) (by decide) (by decide)))
    have f19 := f12.other W15 (Or.inr (slot_ne (Or.inl (w_79 hw)) (Or.inl (w_52 hw)) (by decide) (t := .int) (t' := (.array .byte)) (by decide) (by decide)))
    have f22 := q6_0.other W15 (Ne.symm n7)
    have f23 := q6_1.wr W15
    have N15 := Fr.snoc X15 N6 gn_o1
    have K15 := K6.wr W15 (Or.inl (List.mem_of_getElem? (i := 0) rfl))
    exact g_retV C X15 K d14_38 (by decide) (by decide) e15 ⟨o36, kd36, (capN c1 m1), rfl, N15, (Or.inr sz_o36), K15, f17, f18, f19, f22, f23, (ens_grow hi hm hc hc14).1, (ens_grow hi hm hc hc14).2⟩
theorem app_len (l x : List Int32) : Int32.ofNat (l ++ x).length = Int32.ofNat l.length + Int32.ofNat x.length := by rw [List.length_append, i_add]
theorem gb_t {l : List Int32} {i : Int32} {c : Nat} (hi : Int32.ofNat l.length = i) (h : l.length ≤ c) (hc : c ≤ 90) : (i <<< ((0 : Int32) &&& 31)).toNatClampNeg = l.length := by subst hi; rw [own_shl0, i_toNat _ (by omega)]
theorem gb_h2 {l : List Int32} {i : Int32} {c : Nat} (hi : Int32.ofNat l.length = i) (h : l.length ≤ c) (hc : c ≤ 90) : ¬ (i <<< ((0 : Int32) &&& 31)) < 0 := by subst hi; rw [own_shl0]; exact i_nn _ (by omega)
theorem gb_n {x : List Int32} (h : x.length ≤ 90) : (Int32.ofNat x.length).toNatClampNeg = x.length := i_toNat _ (by omega)
theorem gb_h4 {x : List Int32} : (0 : Int32).toNatClampNeg + (Int32.ofNat x.length).toNatClampNeg ≤ (Int32.ofNat x.length).toNatClampNeg := by show 0 + _ ≤ _; omega
theorem gb_h5 {l x : List Int32} {i : Int32} {c : Nat} (hi : Int32.ofNat l.length = i) (hf : l.length + x.length ≤ c) (hc : c ≤ 90) : (i <<< ((0 : Int32) &&& 31)).toNatClampNeg + (Int32.ofNat x.length).toNatClampNeg ≤ (Int32.ofNat c).toNatClampNeg := by
  rw [gb_t hi (by omega) hc, gb_n (by omega), i_toNat c (by omega)]; exact hf
theorem gb_hl {l x : List Int32} {i : Int32} {c : Nat} (hi : Int32.ofNat l.length = i) (hf : l.length + x.length ≤ c) (hc : c ≤ 90) : (i <<< ((0 : Int32) &&& 31)).toNatClampNeg + (Int32.ofNat x.length).toNatClampNeg ≤ (l.map Value.int ++ List.replicate x.length (Value.int 0)).length := by
  rw [gb_t hi (by omega) hc, gb_n (by omega)]; simp
theorem raw_app {l x : List Int32} {sp dp nn : Nat} (hs : sp = 0) (hd : dp = l.length) (hn : nn = x.length) : ∀ k, ((l ++ x).map Value.int).getD k (.int 0) = (((l.map Value.int ++ List.replicate x.length (Value.int 0)).take dp ++ (List.range nn).map (fun i => (x.map Value.int).getD (sp + i) (.int 0)) ++ (l.map Value.int ++ List.replicate x.length (Value.int 0)).drop (dp + nn)).getD k (.int 0)) := by
  intro k
  subst hs hd hn
  have e1 : (l.map Value.int ++ List.replicate x.length (Value.int 0)).take l.length = l.map Value.int := by
    rw [List.take_append_of_le_length (by simp), List.take_of_length_le (by simp)]
  have e2 : (l.map Value.int ++ List.replicate x.length (Value.int 0)).drop (l.length + x.length) = [] := List.drop_of_length_le (by simp)
  have e3 : (List.range x.length).map (fun i => (x.map Value.int).getD (0 + i) (.int 0)) = x.map Value.int := by
    apply List.ext_getElem (by simp)
    intro i h1 h2
    simp only [List.length_map, List.length_range] at h1
    simp [h1]
  rw [e1, e2, e3, List.append_nil, List.map_append]

theorem ef_17rrii (m : MethodId) (a1 : Addr) (a2 : Addr) (a3 : Int32) (a4 : Int32) : entryFrame m #[(.ref a1), (.ref a2), (.int a3), (.int a4)] 4 = mkF m 0 #[rv a1, rv a2, iv a3, iv a4] [] := by first | (simp [entryFrame, mkF, argsToLocals, Value.category, iv, rv, jv, nv, uu, sd]; done) | rfl
theorem d17_0 : decode jdk_42_method_147_code 0 = .ok (.aload_n 0, 1) := by decide +kernel
theorem d17_1 : decode jdk_42_method_147_code 1 = .ok (.invokevirtual 335, 3) := by decide +kernel
theorem d17_4 : decode jdk_42_method_147_code 4 = .ok (.iload_n 3, 1) := by decide +kernel
theorem d17_5 : decode jdk_42_method_147_code 5 = .ok (.if_icmp .ne 23, 3) := by decide +kernel
theorem d17_8 : decode jdk_42_method_147_code 8 = .ok (.aload_n 0, 1) := by decide +kernel
theorem d17_9 : decode jdk_42_method_147_code 9 = .ok (.getfield 9, 3) := by decide +kernel
theorem d17_12 : decode jdk_42_method_147_code 12 = .ok (.iconst 0, 1) := by decide +kernel
theorem d17_13 : decode jdk_42_method_147_code 13 = .ok (.aload_n 1, 1) := by decide +kernel
theorem d17_14 : decode jdk_42_method_147_code 14 = .ok (.iload_n 2, 1) := by decide +kernel
theorem d17_15 : decode jdk_42_method_147_code 15 = .ok (.iload_n 3, 1) := by decide +kernel
theorem d17_16 : decode jdk_42_method_147_code 16 = .ok (.ishl, 1) := by decide +kernel
theorem d17_17 : decode jdk_42_method_147_code 17 = .ok (.aload_n 0, 1) := by decide +kernel
theorem d17_18 : decode jdk_42_method_147_code 18 = .ok (.getfield 9, 3) := by decide +kernel
theorem d17_21 : decode jdk_42_method_147_code 21 = .ok (.arraylength, 1) := by decide +kernel
theorem d17_22 : decode jdk_42_method_147_code 22 = .ok (.invokestatic 212, 3) := by decide +kernel
theorem w_101 {Z : State} {a0 : Array Value} (hw : ∀ d ∈ tables_1, d.before a0 Z = true) : Jvm.Cond.before (Jvm.Cond.methodLink "java/lang/String" (212 : Nat) ({ cls := "java/lang/System", name := "arraycopy", desc := "(Ljava/lang/Object;ILjava/lang/Object;II)V" } : Jvm.MethodName)) a0 Z = true := hw _ (List.mem_of_getElem? (i := 101) rfl)
theorem d17_25 : decode jdk_42_method_147_code 25 = .ok (.goto 18, 3) := by decide +kernel
theorem d17_43 : decode jdk_42_method_147_code 43 = .ok (.return_, 1) := by decide +kernel
def Q17 (Z : State) (o5 : Addr) (o2 : Addr) (i1 : Int32) (o6 : Addr) (kd1 : ClassId) (kd5 : ClassId) (c1 : Nat) (l1 : List Int32) (l5 : List Int32) (cs1 : Int32) (h0 : Heap) (n0 : Nat) (v : Option Value) (h : Heap) (L : List Loc) : Prop := v = none ∧ Fr n0 L ∧ Keep h0 h [o2] ∧ Arv Z h o2 kd1 .byte (Int32.ofNat c1) ((l1 ++ l5).map Value.int) (.int 0)
abbrev y17 : MethodName := (⟨"java/lang/String", "getBytes", "([BIB)V"⟩ : MethodName)
theorem rm17 {o5 o2 o6 : Addr} {i1 cs1 : Int32} {kd1 kd5 : ClassId} {c1 : Nat} {l1 l5 : List Int32} (hw : OwnW a0 Z) (Z0 : n0 ≤ h0.size) (F0 : OEs Z h0 o5) (F1 : OFv Z h0 o5 (.ref o6)) (F2 : OFc Z h0 o5) (F3 : Arv Z h0 o6 kd5 .byte (Int32.ofNat l5.length) (l5.map Value.int) (.int 0)) (F4 : Arv Z h0 o2 kd1 .byte (Int32.ofNat c1) (l1.map Value.int) (.int 0)) (F5 : OSc Z h0 cs1) (gn_o2 : n0 ≤ o2) (hcs : ¬ cs1 = (0 : Int32)) (hi : Int32.ofNat l1.length = i1) (hf : l1.length + l5.length ≤ c1) (hc : c1 ≤ 90) (ne_o2_o6 : o2 ≠ o6) (ne_o2_o5 : o2 ≠ o5) : OwnMF l Z y17 jdk_42_method_147_code 4 none ws ⟨1, 0, 0, 18⟩ #[(.ref o5), (.ref o2), (.int i1), (.int 0)] h0 (Q17 Z o5 o2 i1 o6 kd1 kd5 c1 l1 l5 cs1 h0 n0) := by
  refine bo (plainFor_of_name pn_1) ?_
  intro p e s m below meth c T0 G C hnm hnamed X0 e0 K
  have N0 := Fr.nil n0
  refine Goes.to (congrArg T0.setTop (ef_17rrii m o5 o2 i1 (0 : Int32))) ?_
  have K00 := Keep.refl h0 [o2]
  refine g_aloadN C X0 d17_0 1 rfl rfl ?_
  refine g_callV0 C X0 (b_0 hw) F0 d17_1 [] [] 0 (rm13 hw Z0 F2 F5 hcs) N0 pd_1 e0 4 (fun T1 _ X1 N1 e1 => ?_)
  refine g_iloadN C X1 d17_4 5 rfl ?_
  refine g_icmp_ne C X1 d17_5 28 8 (fun hc5 => absurd hc5 (by decide)) (fun hc5 => ?_)
  refine g_aloadN C X1 d17_8 9 rfl rfl ?_
  refine g_getF C X1 (w_24 hw) Via.refl e1 F1 d17_9 12 (fun T2 X2 e2 => ?_)
  refine g_iconst C X2 d17_12 13 (v := 0) rfl ?_
  refine g_aloadN C X2 d17_13 14 rfl rfl ?_
  refine g_iloadN C X2 d17_14 15 rfl ?_
  refine g_iloadN C X2 d17_15 16 rfl ?_
  refine g_ishl C X2 d17_16 17 ?_
  refine g_aloadN C X2 d17_17 18 rfl rfl ?_
  refine g_getF C X2 (w_24 hw) Via.refl e2 F1 d17_18 21 (fun T3 X3 e3 => ?_)
  refine g_arraylength C X3 e3 F3 d17_21 22 ?_
  have fb := F4.pad (pad_rep (l1.map Value.int) (.int 0) l5.length)
  refine g_acopy C X3 (w_101 hw) (w_104 hw) (w_102 hw) (w_103 hw) e3 F3 fb rfl (by decide) (gb_h2 hi (Nat.le_trans (Nat.le_add_right _ _) hf) hc) (i_nn _ (Nat.lt_of_le_of_lt (Nat.le_trans (Nat.le_trans (Nat.le_add_left _ _) hf) hc) (by decide))) gb_h4 (gb_h5 hi hf hc) rfl (gb_hl hi hf hc) rfl N1 gn_o2 rfl d17_22 25 (by decide) (W := 0) (Nat.le_of_eq rfl) (by decide) (fun T4 h4 L4 X4 e4 N4 Kq4 V4 => ?_)
  have f5 : Arv Z h4 o2 kd1 .byte (Int32.ofNat c1) ((l1 ++ l5).map Value.int) (.int 0) := V4.pad (raw_app rfl (gb_t hi (Nat.le_trans (Nat.le_add_right _ _) hf) hc) (gb_n (Nat.le_trans (Nat.le_trans (Nat.le_add_left _ _) hf) hc)))
  have K4 := K00.trans Kq4 (allS (Or.inl (List.mem_of_getElem? (i := 0) rfl)) all0)
  refine g_goto C X4 d17_25 43 ?_
  exact g_retV C X4 K d17_43 (by decide) (by decide) e4 ⟨rfl, N4, K4, f5⟩
theorem ef_16rr (m : MethodId) (a1 : Addr) (a2 : Addr) : entryFrame m #[(.ref a1), (.ref a2)] 2 = mkF m 0 #[rv a1, rv a2] [] := by first | (simp [entryFrame, mkF, argsToLocals, Value.category, iv, rv, jv, nv, uu, sd]; done) | rfl
theorem d16_0 : decode jdk_68_method_71_code 0 = .ok (.getstatic 18, 3) := by decide +kernel
theorem d16_3 : decode jdk_68_method_71_code 3 = .ok (.ifCond .eq 18, 3) := by decide +kernel
theorem d16_6 : decode jdk_68_method_71_code 6 = .ok (.aload_n 0, 1) := by decide +kernel
theorem d16_7 : decode jdk_68_method_71_code 7 = .ok (.getfield 22, 3) := by decide +kernel
theorem d16_10 : decode jdk_68_method_71_code 10 = .ok (.aload_n 1, 1) := by decide +kernel
theorem d16_11 : decode jdk_68_method_71_code 11 = .ok (.invokevirtual 40, 3) := by decide +kernel
theorem w_95 {Z : State} {a0 : Array Value} (hw : ∀ d ∈ tables_1, d.before a0 Z = true) : Jvm.Cond.before (Jvm.Cond.methodLink "java/lang/AbstractStringBuilder" (40 : Nat) ({ cls := "java/lang/String", name := "coder", desc := "()B" } : Jvm.MethodName)) a0 Z = true := hw _ (List.mem_of_getElem? (i := 95) rfl)
theorem b_5 (hw : OwnW a0 Z) : CallV "java/lang/AbstractStringBuilder" 40 (⟨"java/lang/String", "coder", "()B"⟩ : MethodName) "java/lang/String" jdk_42_method_152_code (1 : Nat) (Option.some Jvm.ClassFile.FieldType.byte) a0 Z := ⟨(w_95 hw), (w_74 hw), (w_76 hw), (w_75 hw), (w_77 hw), (w_4 hw)⟩
theorem d16_14 : decode jdk_68_method_71_code 14 = .ok (.if_icmp .eq 7, 3) := by decide +kernel
theorem d16_21 : decode jdk_68_method_71_code 21 = .ok (.return_, 1) := by decide +kernel
abbrev y16 : MethodName := (⟨"java/lang/AbstractStringBuilder", "inflateIfNeededFor", "(Ljava/lang/String;)V"⟩ : MethodName)
theorem rm16 {o1 o5 : Addr} {cs1 : Int32} (hw : OwnW a0 Z) (Z0 : n0 ≤ h0.size) (F0 : Exa Z h0 o1 "java/lang/StringBuilder") (F1 : Fld Z h0 o1 "java/lang/AbstractStringBuilder" "coder" "B" (.int 0)) (F2 : OEs Z h0 o5) (F3 : OFc Z h0 o5) (F4 : OSc Z h0 cs1) (hcs : ¬ cs1 = (0 : Int32)) : OwnMF l Z y16 jdk_68_method_71_code 2 none ws ⟨1, 0, 0, 13⟩ #[(.ref o1), (.ref o5)] h0 (OwnQ none h0 n0) := by
  refine bo (plainFor_of_name pn_9) ?_
  intro p e s m below meth c T0 G C hnm hnamed X0 e0 K
  have N0 := Fr.nil n0
  refine Goes.to (congrArg T0.setTop (ef_16rr m o1 o5)) ?_
  refine g_getS C X0 (w_50 hw) Via.refl e0 F4 d16_0 3 (fun T1 X1 e1 => ?_)
  refine g_if_eq C X1 d16_3 21 6 (fun hc3 => absurd hc3 hcs) (fun hc3 => ?_)
  refine g_aloadN C X1 d16_6 7 rfl rfl ?_
  refine g_getF C X1 (w_53 hw) Via.refl e1 F1 d16_7 10 (fun T2 X2 e2 => ?_)
  refine g_aloadN C X2 d16_10 11 rfl rfl ?_
  refine g_callV0 C X2 (b_5 hw) F2 d16_11 [] [(.int 0)] 1 (rm13 hw Z0 F3 F4 hcs) N0 pd_1 e2 14 (fun T3 _ X3 N3 e3 => ?_)
  refine g_icmp_eq C X3 d16_14 21 17 (fun hc14 => ?_) (fun hc14 => absurd hc14 (by decide))
  exact g_retV C X3 K d16_21 (by decide) (by decide) e3 ⟨rfl, N3, rfl⟩
theorem ef_15rir (m : MethodId) (a1 : Addr) (a2 : Int32) (a3 : Addr) : entryFrame m #[(.ref a1), (.int a2), (.ref a3)] 3 = mkF m 0 #[rv a1, iv a2, rv a3] [] := by first | (simp [entryFrame, mkF, argsToLocals, Value.category, iv, rv, jv, nv, uu, sd]; done) | rfl
theorem d15_0 : decode jdk_68_method_73_code 0 = .ok (.aload_n 0, 1) := by decide +kernel
theorem d15_1 : decode jdk_68_method_73_code 1 = .ok (.aload_n 2, 1) := by decide +kernel
theorem d15_2 : decode jdk_68_method_73_code 2 = .ok (.invokevirtual 397, 3) := by decide +kernel
theorem w_94 {Z : State} {a0 : Array Value} (hw : ∀ d ∈ tables_1, d.before a0 Z = true) : Jvm.Cond.before (Jvm.Cond.code ({ cls := "java/lang/AbstractStringBuilder", name := "inflateIfNeededFor", desc := "(Ljava/lang/String;)V" } : Jvm.MethodName) jdk_68_method_71_code (2 : Nat) (Option.none : Option Jvm.ClassFile.FieldType)) a0 Z = true := hw _ (List.mem_of_getElem? (i := 94) rfl)
theorem w_90 {Z : State} {a0 : Array Value} (hw : ∀ d ∈ tables_1, d.before a0 Z = true) : Jvm.Cond.before (Jvm.Cond.methodLink "java/lang/AbstractStringBuilder" (397 : Nat) ({ cls := "java/lang/AbstractStringBuilder", name := "inflateIfNeededFor", desc := "(Ljava/lang/String;)V" } : Jvm.MethodName)) a0 Z = true := hw _ (List.mem_of_getElem? (i := 90) rfl)
theorem pd_6 : parseMethodDescriptor "(Ljava/lang/String;)V" = some ⟨[(.object "java/lang/String")], none⟩ := by decide +kernel
theorem w_91 {Z : State} {a0 : Array Value} (hw : ∀ d ∈ tables_1, d.before a0 Z = true) : Jvm.Cond.before (Jvm.Cond.instanceMethod ({ cls := "java/lang/AbstractStringBuilder", name := "inflateIfNeededFor", desc := "(Ljava/lang/String;)V" } : Jvm.MethodName)) a0 Z = true := hw _ (List.mem_of_getElem? (i := 91) rfl)
theorem w_93 {Z : State} {a0 : Array Value} (hw : ∀ d ∈ tables_1, d.before a0 Z = true) : Jvm.Cond.before (Jvm.Cond.selects "java/lang/StringBuilder" ({ cls := "java/lang/AbstractStringBuilder", name := "inflateIfNeededFor", desc := "(Ljava/lang/String;)V" } : Jvm.MethodName) ({ cls := "java/lang/AbstractStringBuilder", name := "inflateIfNeededFor", desc := "(Ljava/lang/String;)V" } : Jvm.MethodName)) a0 Z = true := hw _ (List.mem_of_getElem? (i := 93) rfl)
theorem b_6 (hw : OwnW a0 Z) : CallV "java/lang/AbstractStringBuilder" 397 (⟨"java/lang/AbstractStringBuilder", "inflateIfNeededFor", "(Ljava/lang/String;)V"⟩ : MethodName) "java/lang/StringBuilder" jdk_68_method_71_code (2 : Nat) (Option.none : Option Jvm.ClassFile.FieldType) a0 Z := ⟨(w_90 hw), (declares_of (w_91 hw) (w_94 hw)), (w_93 hw), (w_91 hw), (w_94 hw), (w_47 hw)⟩
theorem d15_5 : decode jdk_68_method_73_code 5 = .ok (.aload_n 2, 1) := by decide +kernel
theorem d15_6 : decode jdk_68_method_73_code 6 = .ok (.aload_n 0, 1) := by decide +kernel
theorem d15_7 : decode jdk_68_method_73_code 7 = .ok (.getfield 15, 3) := by decide +kernel
theorem d15_10 : decode jdk_68_method_73_code 10 = .ok (.iload_n 1, 1) := by decide +kernel
theorem d15_11 : decode jdk_68_method_73_code 11 = .ok (.aload_n 0, 1) := by decide +kernel
theorem d15_12 : decode jdk_68_method_73_code 12 = .ok (.getfield 22, 3) := by decide +kernel
theorem d15_15 : decode jdk_68_method_73_code 15 = .ok (.invokevirtual 399, 3) := by decide +kernel
theorem w_100 {Z : State} {a0 : Array Value} (hw : ∀ d ∈ tables_1, d.before a0 Z = true) : Jvm.Cond.before (Jvm.Cond.code ({ cls := "java/lang/String", name := "getBytes", desc := "([BIB)V" } : Jvm.MethodName) jdk_42_method_147_code (4 : Nat) (Option.none : Option Jvm.ClassFile.FieldType)) a0 Z = true := hw _ (List.mem_of_getElem? (i := 100) rfl)
theorem w_96 {Z : State} {a0 : Array Value} (hw : ∀ d ∈ tables_1, d.before a0 Z = true) : Jvm.Cond.before (Jvm.Cond.methodLink "java/lang/AbstractStringBuilder" (399 : Nat) ({ cls := "java/lang/String", name := "getBytes", desc := "([BIB)V" } : Jvm.MethodName)) a0 Z = true := hw _ (List.mem_of_getElem? (i := 96) rfl)
theorem pd_7 : parseMethodDescriptor "([BIB)V" = some ⟨[(.array .byte), .int, .byte], none⟩ := by decide +kernel
theorem w_99 {Z : State} {a0 : Array Value} (hw : ∀ d ∈ tables_1, d.before a0 Z = true) : Jvm.Cond.before (Jvm.Cond.selects "java/lang/String" ({ cls := "java/lang/String", name := "getBytes", desc := "([BIB)V" } : Jvm.MethodName) ({ cls := "java/lang/String", name := "getBytes", desc := "([BIB)V" } : Jvm.MethodName)) a0 Z = true := hw _ (List.mem_of_getElem? (i := 99) rfl)
theorem w_97 {Z : State} {a0 : Array Value} (hw : ∀ d ∈ tables_1, d.before a0 Z = true) : Jvm.Cond.before (Jvm.Cond.declares ({ cls := "java/lang/String", name := "getBytes", desc := "([BIB)V" } : Jvm.MethodName)) a0 Z = true := hw _ (List.mem_of_getElem? (i := 97) rfl)
theorem w_98 {Z : State} {a0 : Array Value} (hw : ∀ d ∈ tables_1, d.before a0 Z = true) : Jvm.Cond.before (Jvm.Cond.instanceMethod ({ cls := "java/lang/String", name := "getBytes", desc := "([BIB)V" } : Jvm.MethodName)) a0 Z = true := hw _ (List.mem_of_getElem? (i := 98) rfl)
theorem d15_18 : decode jdk_68_method_73_code 18 = .ok (.return_, 1) := by decide +kernel
def Q15 (Z : State) (o1 : Addr) (i1 : Int32) (o5 : Addr) (o2 : Addr) (o6 : Addr) (kd1 : ClassId) (kd5 : ClassId) (c1 : Nat) (l1 : List Int32) (l5 : List Int32) (cs1 : Int32) (h0 : Heap) (n0 : Nat) (v : Option Value) (h : Heap) (L : List Loc) : Prop := v = none ∧ Fr n0 L ∧ Keep h0 h [o2] ∧ Arv Z h o2 kd1 .byte (Int32.ofNat c1) ((l1 ++ l5).map Value.int) (.int 0)
abbrev y15 : MethodName := (⟨"java/lang/AbstractStringBuilder", "putStringAt", "(ILjava/lang/String;)V"⟩ : MethodName)
theorem rm15 {o1 o5 o2 o6 : Addr} {i1 cs1 : Int32} {kd1 kd5 : ClassId} {c1 : Nat} {l1 l5 : List Int32} (hw : OwnW a0 Z) (Z0 : n0 ≤ h0.size) (F0 : Exa Z h0 o1 "java/lang/StringBuilder") (F1 : Fld Z h0 o1 "java/lang/AbstractStringBuilder" "value" "[B" (.ref o2)) (F2 : Fld Z h0 o1 "java/lang/AbstractStringBuilder" "coder" "B" (.int 0)) (F3 : OEs Z h0 o5) (F4 : OFv Z h0 o5 (.ref o6)) (F5 : OFc Z h0 o5) (F6 : Arv Z h0 o6 kd5 .byte (Int32.ofNat l5.length) (l5.map Value.int) (.int 0)) (F7 : Arv Z h0 o2 kd1 .byte (Int32.ofNat c1) (l1.map Value.int) (.int 0)) (F8 : OSc Z h0 cs1) (gn_o2 : n0 ≤ o2) (hcs : ¬ cs1 = (0 : Int32)) (hi : Int32.ofNat l1.length = i1) (hf : l1.length + l5.length ≤ c1) (hc : c1 ≤ 90) (ne_o2_o6 : o2 ≠ o6) (ne_o2_o5 : o2 ≠ o5) (ne_o1_o2 : o1 ≠ o2) : OwnMF l Z y15 jdk_68_method_73_code 3 none ws ⟨2, 0, 0, 33⟩ #[(.ref o1), (.int i1), (.ref o5)] h0 (Q15 Z o1 i1 o5 o2 o6 kd1 kd5 c1 l1 l5 cs1 h0 n0) := by
  refine bo (plainFor_of_name pn_9) ?_
  intro p e s m below meth c T0 G C hnm hnamed X0 e0 K
  have N0 := Fr.nil n0
  refine Goes.to (congrArg T0.setTop (ef_15rir m o1 i1 o5)) ?_
  have K00 := Keep.refl h0 [o2]
  refine g_aloadN C X0 d15_0 1 rfl rfl ?_
  refine g_aloadN C X0 d15_1 2 rfl rfl ?_
  refine g_callVn C X0 (b_6 hw) F0 d15_2 [(.ref o5)] [] 0 (rm16 hw Z0 F0 F2 F3 F5 F8 hcs) N0 pd_6 e0 5 (fun T1 _ X1 N1 e1 => ?_)
  refine g_aloadN C X1 d15_5 6 rfl rfl ?_
  refine g_aloadN C X1 d15_6 7 rfl rfl ?_
  refine g_getF C X1 (w_51 hw) Via.refl e1 F1 d15_7 10 (fun T2 X2 e2 => ?_)
  refine g_iloadN C X2 d15_10 11 rfl ?_
  refine g_aloadN C X2 d15_11 12 rfl rfl ?_
  refine g_getF C X2 (w_53 hw) Via.refl e2 F2 d15_12 15 (fun T3 X3 e3 => ?_)
  refine g_callV C X3 (w_96 hw) (w_97 hw) (notFace_of_selects (args := #[]) (mvT C.2.1 (w_99 hw))) (w_99 hw) (w_98 hw) (w_100 hw) (w_4 hw) F3 d15_15 [(.ref o2), (.int i1), (.int 0)] [] 0 (rm17 hw Z0 F3 F4 F5 F6 F7 F8 gn_o2 hcs hi hf hc ne_o2_o6 ne_o2_o5) pd_7 e3 18 (fun u4 T4 L4 X4 hQ4 => ?_)
  obtain ⟨rfl, Nq4, Kq4, q4_0⟩ := hQ4
  have N4 := Fr.app N1 Nq4
  have K4 := K00.trans Kq4 (allS (Or.inl (List.mem_of_getElem? (i := 0) rfl)) all0)
  refine ret0 ?_
  exact g_retV C X4 K d15_18 (by decide) (by decide) rfl ⟨rfl, N4, K4, q4_0⟩
theorem ef_11rr (m : MethodId) (a1 : Addr) (a2 : Addr) : entryFrame m #[(.ref a1), (.ref a2)] 3 = mkF m 0 #[rv a1, rv a2, uu] [] := by first | (simp [entryFrame, mkF, argsToLocals, Value.category, iv, rv, jv, nv, uu, sd]; done) | rfl
theorem d11_0 : decode jdk_68_method_22_code 0 = .ok (.aload_n 1, 1) := by decide +kernel
theorem d11_1 : decode jdk_68_method_22_code 1 = .ok (.ifnonnull 8, 3) := by decide +kernel
theorem d11_9 : decode jdk_68_method_22_code 9 = .ok (.aload_n 1, 1) := by decide +kernel
theorem d11_10 : decode jdk_68_method_22_code 10 = .ok (.invokevirtual 32, 3) := by decide +kernel
theorem w_72 {Z : State} {a0 : Array Value} (hw : ∀ d ∈ tables_1, d.before a0 Z = true) : Jvm.Cond.before (Jvm.Cond.code ({ cls := "java/lang/String", name := "length", desc := "()I" } : Jvm.MethodName) jdk_42_method_54_code (1 : Nat) (Option.some Jvm.ClassFile.FieldType.int)) a0 Z = true := hw _ (List.mem_of_getElem? (i := 72) rfl)
theorem w_68 {Z : State} {a0 : Array Value} (hw : ∀ d ∈ tables_1, d.before a0 Z = true) : Jvm.Cond.before (Jvm.Cond.methodLink "java/lang/AbstractStringBuilder" (32 : Nat) ({ cls := "java/lang/String", name := "length", desc := "()I" } : Jvm.MethodName)) a0 Z = true := hw _ (List.mem_of_getElem? (i := 68) rfl)
theorem pd_8 : parseMethodDescriptor "()I" = some ⟨[], some .int⟩ := by decide +kernel
theorem w_69 {Z : State} {a0 : Array Value} (hw : ∀ d ∈ tables_1, d.before a0 Z = true) : Jvm.Cond.before (Jvm.Cond.declares ({ cls := "java/lang/String", name := "length", desc := "()I" } : Jvm.MethodName)) a0 Z = true := hw _ (List.mem_of_getElem? (i := 69) rfl)
theorem w_71 {Z : State} {a0 : Array Value} (hw : ∀ d ∈ tables_1, d.before a0 Z = true) : Jvm.Cond.before (Jvm.Cond.selects "java/lang/String" ({ cls := "java/lang/String", name := "length", desc := "()I" } : Jvm.MethodName) ({ cls := "java/lang/String", name := "length", desc := "()I" } : Jvm.MethodName)) a0 Z = true := hw _ (List.mem_of_getElem? (i := 71) rfl)
theorem w_70 {Z : State} {a0 : Array Value} (hw : ∀ d ∈ tables_1, d.before a0 Z = true) : Jvm.Cond.before (Jvm.Cond.instanceMethod ({ cls := "java/lang/String", name := "length", desc := "()I" } : Jvm.MethodName)) a0 Z = true := hw _ (List.mem_of_getElem? (i := 70) rfl)
theorem b_7 (hw : OwnW a0 Z) : CallV "java/lang/AbstractStringBuilder" 32 (⟨"java/lang/String", "length", "()I"⟩ : MethodName) "java/lang/String" jdk_42_method_54_code (1 : Nat) (Option.some Jvm.ClassFile.FieldType.int) a0 Z := ⟨(w_68 hw), (w_69 hw), (w_71 hw), (w_70 hw), (w_72 hw), (w_4 hw)⟩
theorem d11_13 : decode jdk_68_method_22_code 13 = .ok (.istore_n 2, 1) := by decide +kernel
theorem d11_14 : decode jdk_68_method_22_code 14 = .ok (.aload_n 0, 1) := by decide +kernel
theorem d11_15 : decode jdk_68_method_22_code 15 = .ok (.aload_n 0, 1) := by decide +kernel
theorem d11_16 : decode jdk_68_method_22_code 16 = .ok (.getfield 79, 3) := by decide +kernel
theorem w_78 {Z : State} {a0 : Array Value} (hw : ∀ d ∈ tables_1, d.before a0 Z = true) : Jvm.Cond.before (Jvm.Cond.fieldLink "java/lang/AbstractStringBuilder" (79 : Nat) "java/lang/AbstractStringBuilder" "count" "I") a0 Z = true := hw _ (List.mem_of_getElem? (i := 78) rfl)
theorem d11_19 : decode jdk_68_method_22_code 19 = .ok (.iload_n 2, 1) := by decide +kernel
theorem d11_20 : decode jdk_68_method_22_code 20 = .ok (.iadd, 1) := by decide +kernel
theorem d11_21 : decode jdk_68_method_22_code 21 = .ok (.invokevirtual 100, 3) := by decide +kernel
theorem w_84 {Z : State} {a0 : Array Value} (hw : ∀ d ∈ tables_1, d.before a0 Z = true) : Jvm.Cond.before (Jvm.Cond.code ({ cls := "java/lang/AbstractStringBuilder", name := "ensureCapacityInternal", desc := "(I)V" } : Jvm.MethodName) jdk_68_method_9_code (3 : Nat) (Option.none : Option Jvm.ClassFile.FieldType)) a0 Z = true := hw _ (List.mem_of_getElem? (i := 84) rfl)
theorem w_80 {Z : State} {a0 : Array Value} (hw : ∀ d ∈ tables_1, d.before a0 Z = true) : Jvm.Cond.before (Jvm.Cond.methodLink "java/lang/AbstractStringBuilder" (100 : Nat) ({ cls := "java/lang/AbstractStringBuilder", name := "ensureCapacityInternal", desc := "(I)V" } : Jvm.MethodName)) a0 Z = true := hw _ (List.mem_of_getElem? (i := 80) rfl)
theorem w_83 {Z : State} {a0 : Array Value} (hw : ∀ d ∈ tables_1, d.before a0 Z = true) : Jvm.Cond.before (Jvm.Cond.selects "java/lang/StringBuilder" ({ cls := "java/lang/AbstractStringBuilder", name := "ensureCapacityInternal", desc := "(I)V" } : Jvm.MethodName) ({ cls := "java/lang/AbstractStringBuilder", name := "ensureCapacityInternal", desc := "(I)V" } : Jvm.MethodName)) a0 Z = true := hw _ (List.mem_of_getElem? (i := 83) rfl)
theorem w_81 {Z : State} {a0 : Array Value} (hw : ∀ d ∈ tables_1, d.before a0 Z = true) : Jvm.Cond.before (Jvm.Cond.instanceMethod ({ cls := "java/lang/AbstractStringBuilder", name := "ensureCapacityInternal", desc := "(I)V" } : Jvm.MethodName)) a0 Z = true := hw _ (List.mem_of_getElem? (i := 81) rfl)
theorem d11_24 : decode jdk_68_method_22_code 24 = .ok (.aload_n 0, 1) := by decide +kernel
theorem d11_25 : decode jdk_68_method_22_code 25 = .ok (.aload_n 0, 1) := by decide +kernel
theorem d11_26 : decode jdk_68_method_22_code 26 = .ok (.getfield 79, 3) := by decide +kernel
theorem d11_29 : decode jdk_68_method_22_code 29 = .ok (.aload_n 1, 1) := by decide +kernel
theorem d11_30 : decode jdk_68_method_22_code 30 = .ok (.invokevirtual 208, 3) := by decide +kernel
theorem w_89 {Z : State} {a0 : Array Value} (hw : ∀ d ∈ tables_1, d.before a0 Z = true) : Jvm.Cond.before (Jvm.Cond.code ({ cls := "java/lang/AbstractStringBuilder", name := "putStringAt", desc := "(ILjava/lang/String;)V" } : Jvm.MethodName) jdk_68_method_73_code (3 : Nat) (Option.none : Option Jvm.ClassFile.FieldType)) a0 Z = true := hw _ (List.mem_of_getElem? (i := 89) rfl)
theorem w_85 {Z : State} {a0 : Array Value} (hw : ∀ d ∈ tables_1, d.before a0 Z = true) : Jvm.Cond.before (Jvm.Cond.methodLink "java/lang/AbstractStringBuilder" (208 : Nat) ({ cls := "java/lang/AbstractStringBuilder", name := "putStringAt", desc := "(ILjava/lang/String;)V" } : Jvm.MethodName)) a0 Z = true := hw _ (List.mem_of_getElem? (i := 85) rfl)
theorem pd_9 : parseMethodDescriptor "(ILjava/lang/String;)V" = some ⟨[.int, (.object "java/lang/String")], none⟩ := by decide +kernel
theorem w_88 {Z : State} {a0 : Array Value} (hw : ∀ d ∈ tables_1, d.before a0 Z = true) : Jvm.Cond.before (Jvm.Cond.selects "java/lang/StringBuilder" ({ cls := "java/lang/AbstractStringBuilder", name := "putStringAt", desc := "(ILjava/lang/String;)V" } : Jvm.MethodName) ({ cls := "java/lang/AbstractStringBuilder", name := "putStringAt", desc := "(ILjava/lang/String;)V" } : Jvm.MethodName)) a0 Z = true := hw _ (List.mem_of_getElem? (i := 88) rfl)
theorem w_86 {Z : State} {a0 : Array Value} (hw : ∀ d ∈ tables_1, d.before a0 Z = true) : Jvm.Cond.before (Jvm.Cond.instanceMethod ({ cls := "java/lang/AbstractStringBuilder", name := "putStringAt", desc := "(ILjava/lang/String;)V" } : Jvm.MethodName)) a0 Z = true := hw _ (List.mem_of_getElem? (i := 86) rfl)
theorem d11_33 : decode jdk_68_method_22_code 33 = .ok (.aload_n 0, 1) := by decide +kernel
theorem d11_34 : decode jdk_68_method_22_code 34 = .ok (.dup, 1) := by decide +kernel
theorem d11_35 : decode jdk_68_method_22_code 35 = .ok (.getfield 79, 3) := by decide +kernel
theorem d11_38 : decode jdk_68_method_22_code 38 = .ok (.iload_n 2, 1) := by decide +kernel
theorem d11_39 : decode jdk_68_method_22_code 39 = .ok (.iadd, 1) := by decide +kernel
theorem d11_40 : decode jdk_68_method_22_code 40 = .ok (.putfield 79, 3) := by decide +kernel
theorem d11_43 : decode jdk_68_method_22_code 43 = .ok (.aload_n 0, 1) := by decide +kernel
theorem d11_44 : decode jdk_68_method_22_code 44 = .ok (.areturn, 1) := by decide +kernel
def Q11 (Z : State) (o1 : Addr) (o5 : Addr) (o2 : Addr) (kd1 : ClassId) (c1 : Nat) (l1 : List Int32) (o6 : Addr) (kd5 : ClassId) (l5 : List Int32) (cs1 : Int32) (h0 : Heap) (n0 : Nat) (v : Option Value) (h : Heap) (L : List Loc) : Prop := ∃ (o3 : Addr) (kd3 : ClassId) (c3 : Nat), v = some (.ref o1) ∧ Fr n0 L ∧ (o3 = o2 ∨ h0.size ≤ o3) ∧ Keep h0 h [o1, o2] ∧ Fld Z h o1 "java/lang/AbstractStringBuilder" "value" "[B" (.ref o3) ∧ Fld Z h o1 "java/lang/AbstractStringBuilder" "coder" "B" (.int 0) ∧ Fld Z h o1 "java/lang/AbstractStringBuilder" "count" "I" (.int (Int32.ofNat (l1 ++ l5).length)) ∧ Arv Z h o3 kd3 .byte (Int32.ofNat c3) ((l1 ++ l5).map Value.int) (.int 0) ∧ Exa Z h o3 "[B" ∧ c3 ≤ 90 ∧ (l1 ++ l5).length ≤ c3
abbrev y11 : MethodName := (⟨"java/lang/AbstractStringBuilder", "append", "(Ljava/lang/String;)Ljava/lang/AbstractStringBuilder;"⟩ : MethodName)
theorem rm11 {o1 o5 o2 o6 : Addr} {kd1 kd5 : ClassId} {c1 : Nat} {l1 l5 : List Int32} {cs1 : Int32} (hw : OwnW a0 Z) (Z0 : n0 ≤ h0.size) (F0 : Exa Z h0 o1 "java/lang/StringBuilder") (F1 : Fld Z h0 o1 "java/lang/AbstractStringBuilder" "value" "[B" (.ref o2)) (F2 : Fld Z h0 o1 "java/lang/AbstractStringBuilder" "coder" "B" (.int 0)) (F3 : Fld Z h0 o1 "java/lang/AbstractStringBuilder" "count" "I" (.int (Int32.ofNat l1.length))) (F4 : Arv Z h0 o2 kd1 .byte (Int32.ofNat c1) (l1.map Value.int) (.int 0)) (F5 : Exa Z h0 o2 "[B") (F6 : OEs Z h0 o5) (F7 : OFv Z h0 o5 (.ref o6)) (F8 : OFc Z h0 o5) (F9 : Arv Z h0 o6 kd5 .byte (Int32.ofNat l5.length) (l5.map Value.int) (.int 0)) (F10 : OSc Z h0 cs1) (gn_o1 : n0 ≤ o1) (gn_o2 : n0 ≤ o2) (hcs : ¬ cs1 = (0 : Int32)) (hc : c1 ≤ 90) (hll : l1.length ≤ c1) (hm : l1.length + l5.length ≤ 45) (ne_o1_o2 : o1 ≠ o2) (ne_o1_o5 : o1 ≠ o5) (ne_o1_o6 : o1 ≠ o6) (ne_o2_o5 : o2 ≠ o5) (ne_o2_o6 : o2 ≠ o6) : OwnMF l Z y11 jdk_68_method_22_code 3 (some (.object "java/lang/AbstractStringBuilder")) ws ⟨4, 1, 90, 62⟩ #[(.ref o1), (.ref o5)] h0 (Q11 Z o1 o5 o2 kd1 c1 l1 o6 kd5 l5 cs1 h0 n0) := by
  refine bo (plainFor_of_name pn_9) ?_
  intro p e s m below meth c T0 G C hnm hnamed X0 e0 K
  have N0 := Fr.nil n0
  refine Goes.to (congrArg T0.setTop (ef_11rr m o1 o5)) ?_
  have K00 := Keep.refl h0 [o1, o2]
  refine g_aloadN C X0 d11_0 1 rfl rfl ?_
  refine g_ifnonnullY C X0 d11_1 9 ?_
  refine g_aloadN C X0 d11_9 10 rfl rfl ?_
  refine g_callV0 C X0 (b_7 hw) F6 d11_10 [] [] 0 (rm12_s hw Z0 F6 F7 F8 F9 F10 hcs) N0 pd_8 e0 13 (fun T1 _ X1 N1 e1 => ?_)
  refine g_istoreN C X1 d11_13 14 (w := (Int32.ofNat l5.length)) rfl (ls' := #[rv o1, rv o5, iv (Int32.ofNat l5.length)]) rfl ?_
  refine g_aloadN C X1 d11_14 15 rfl rfl ?_
  refine g_aloadN C X1 d11_15 16 rfl rfl ?_
  refine g_getF C X1 (w_78 hw) Via.refl e1 F3 d11_16 19 (fun T2 X2 e2 => ?_)
  refine g_iloadN C X2 d11_19 20 rfl ?_
  refine g_iadd C X2 d11_20 21 ?_
  refine g_callV C X2 (w_80 hw) (declares_of (w_81 hw) (w_84 hw)) (notFace_of_selects (args := #[]) (mvT C.2.1 (w_83 hw))) (w_83 hw) (w_81 hw) (w_84 hw) (w_47 hw) F0 d11_21 [(.int ((Int32.ofNat l1.length) + (Int32.ofNat l5.length)))] [] 0 (rm14 hw Z0 F0 F1 F2 F3 F4 F5 gn_o1 (i_add _ _).symm hm hc hll ne_o1_o2) pd_0 e2 24 (fun u3 T3 L3 X3 hQ3 => ?_)
  obtain ⟨o33, kd33, c33, rfl, Nq3, szo33, Kq3, q3_0, q3_1, q3_2, q3_3, q3_4, p3_mc, p3_c90⟩ := hQ3
  have N3 := Fr.app N1 Nq3
  have n4 : o1 ≠ o33 := alt_ne szo33 ne_o1_o2 F0.lt
  have n5 : o5 ≠ o33 := alt_ne szo33 (Ne.symm ne_o2_o5) F6.lt
  have n6 : o6 ≠ o33 := alt_ne szo33 (Ne.symm ne_o2_o6) F9.lt
  have f7 := F0.keep Kq3
  have f8 := F6.keep Kq3
  have f9 := F7.keep Kq3 (ninS (Ne.symm ne_o1_o5) nin0)
  have f10 := F8.keep Kq3 (ninS (Ne.symm ne_o1_o5) nin0)
  have f11 := F9.keep Kq3 (ninS (Ne.symm ne_o1_o6) nin0)
  have f12 := Sta.keepN F10 Kq3 (allS (Exa.ns F0) all0)
  have gn_o33 : n0 ≤ o33 := alt_born szo33 gn_o2 Z0
  have Z3 := Nat.le_trans Z0 Kq3.1
  have al_o33 := alt_lift szo33 K00.1
  have K3 := K00.trans Kq3 (allS (Or.inl (List.mem_of_getElem? (i := 0) rfl)) all0)
  refine ret0 ?_
  refine g_aloadN C X3 d11_24 25 rfl rfl ?_
  refine g_aloadN C X3 d11_25 26 rfl rfl ?_
  refine g_getF C X3 (w_78 hw) Via.refl rfl q3_2 d11_26 29 (fun T13 X13 e13 => ?_)
  refine g_aloadN C X13 d11_29 30 rfl rfl ?_
  refine g_callV C X13 (w_85 hw) (declares_of (w_86 hw) (w_89 hw)) (notFace_of_selects (args := #[]) (mvT C.2.1 (w_88 hw))) (w_88 hw) (w_86 hw) (w_89 hw) (w_47 hw) f7 d11_30 [(.int (Int32.ofNat l1.length)), (.ref o5)] [] 0 (rm15 hw Z3 f7 q3_0 q3_1 f8 f9 f10 f11 q3_3 f12 gn_o33 hcs rfl p3_mc p3_c90 (Ne.symm n6) (Ne.symm n5) n4) pd_9 e13 33 (fun u14 T14 L14 X14 hQ14 => ?_)
  obtain ⟨rfl, Nq14, Kq14, q14_0⟩ := hQ14
  have N14 := Fr.app N3 Nq14
  have f15 := f7.keep Kq14
  have f21 := q3_0.keep Kq14 (ninS n4 nin0)
  have f22 := q3_1.keep Kq14 (ninS n4 nin0)
  have f23 := q3_2.keep Kq14 (ninS n4 nin0)
  have f24 := q3_4.keep Kq14
  have K14 := K3.trans Kq14 (allS (alt_in al_o33 (List.mem_of_getElem? (i := 1) rfl)) all0)
  refine ret0 ?_
  refine g_aloadN C X14 d11_33 34 rfl rfl ?_
  refine g_dup C X14 d11_34 35 rfl ?_
  refine g_getF C X14 (w_78 hw) Via.refl rfl f23 d11_35 38 (fun T25 X25 e25 => ?_)
  refine g_iloadN C X25 d11_38 39 rfl ?_
  refine g_iadd C X25 d11_39 40 ?_
  refine g_putF C X25 (w_78 hw) Via.refl e25 f23 f15 (Or.inl (w_79 hw)) (w_38 hw) (ty := .int) (by decide) rfl rfl d11_40 43 (fun T26 h26 X26 e26 W26 => ?_)
  have f33 := f21.other W26 (Or.inr (slot_ne (Or.inl (w_52 hw)) (Or.inl (w_79 hw)) (by decide) (t := (.array .byte)) (t' := .int) (by decide) (by decide)))
  have f34 := f22.other W26 (Or.inr (slot_ne (Or.inl (w_54 hw)) (Or.inl (w_79 hw)) (by decide) (t := .byte) (t' := .int) (by decide) (by decide)))
  have f35 := f23.same W26
  have f36 := f24.wr W26
  have f37 := q14_0.other W26 (Ne.symm n4)
  have N26 := Fr.snoc X26 N14 gn_o1
  have K26 := K14.wr W26 (Or.inl (List.mem_of_getElem? (i := 0) rfl))
  have f38 : Fld Z h26 o1 "java/lang/AbstractStringBuilder" "count" "I" (.int (Int32.ofNat (l1 ++ l5).length)) := by rw [app_len]; exact f35
  refine g_aloadN C X26 d11_43 44 rfl rfl ?_
  exact g_retA C X26 K rfl rfl rfl d11_44 (by decide) (by decide) e26 ⟨o33, kd33, c33, rfl, N26, al_o33, K26, f33, f34, f38, f37, f36, p3_c90, (by rw [List.length_append]; exact p3_mc)⟩
theorem ef_10rr (m : MethodId) (a1 : Addr) (a2 : Addr) : entryFrame m #[(.ref a1), (.ref a2)] 2 = mkF m 0 #[rv a1, rv a2] [] := by first | (simp [entryFrame, mkF, argsToLocals, Value.category, iv, rv, jv, nv, uu, sd]; done) | rfl
theorem d10_0 : decode jdk_67_method_7_code 0 = .ok (.aload_n 0, 1) := by decide +kernel
theorem d10_1 : decode jdk_67_method_7_code 1 = .ok (.aload_n 1, 1) := by decide +kernel
theorem d10_2 : decode jdk_67_method_7_code 2 = .ok (.invokespecial 29, 3) := by decide +kernel
theorem w_67 {Z : State} {a0 : Array Value} (hw : ∀ d ∈ tables_1, d.before a0 Z = true) : Jvm.Cond.before (Jvm.Cond.code ({ cls := "java/lang/AbstractStringBuilder", name := "append", desc := "(Ljava/lang/String;)Ljava/lang/AbstractStringBuilder;" } : Jvm.MethodName) jdk_68_method_22_code (3 : Nat) (Option.some (Jvm.ClassFile.FieldType.object "java/lang/AbstractStringBuilder"))) a0 Z = true := hw _ (List.mem_of_getElem? (i := 67) rfl)
theorem w_63 {Z : State} {a0 : Array Value} (hw : ∀ d ∈ tables_1, d.before a0 Z = true) : Jvm.Cond.before (Jvm.Cond.methodLink "java/lang/StringBuilder" (29 : Nat) ({ cls := "java/lang/AbstractStringBuilder", name := "append", desc := "(Ljava/lang/String;)Ljava/lang/AbstractStringBuilder;" } : Jvm.MethodName)) a0 Z = true := hw _ (List.mem_of_getElem? (i := 63) rfl)
theorem pd_10 : parseMethodDescriptor "(Ljava/lang/String;)Ljava/lang/AbstractStringBuilder;" = some ⟨[(.object "java/lang/String")], some (.object "java/lang/AbstractStringBuilder")⟩ := by decide +kernel
theorem w_66 {Z : State} {a0 : Array Value} (hw : ∀ d ∈ tables_1, d.before a0 Z = true) : Jvm.Cond.before (Jvm.Cond.declares ({ cls := "java/lang/AbstractStringBuilder", name := "append", desc := "(Ljava/lang/String;)Ljava/lang/AbstractStringBuilder;" } : Jvm.MethodName)) a0 Z = true := hw _ (List.mem_of_getElem? (i := 66) rfl)
theorem w_64 {Z : State} {a0 : Array Value} (hw : ∀ d ∈ tables_1, d.before a0 Z = true) : Jvm.Cond.before (Jvm.Cond.instanceMethod ({ cls := "java/lang/AbstractStringBuilder", name := "append", desc := "(Ljava/lang/String;)Ljava/lang/AbstractStringBuilder;" } : Jvm.MethodName)) a0 Z = true := hw _ (List.mem_of_getElem? (i := 64) rfl)
theorem w_65 {Z : State} {a0 : Array Value} (hw : ∀ d ∈ tables_1, d.before a0 Z = true) : Jvm.Cond.before (Jvm.Cond.superclass "java/lang/StringBuilder" "java/lang/AbstractStringBuilder") a0 Z = true := hw _ (List.mem_of_getElem? (i := 65) rfl)
theorem d10_5 : decode jdk_67_method_7_code 5 = .ok (.pop, 1) := by decide +kernel
theorem d10_6 : decode jdk_67_method_7_code 6 = .ok (.aload_n 0, 1) := by decide +kernel
theorem d10_7 : decode jdk_67_method_7_code 7 = .ok (.areturn, 1) := by decide +kernel
def Q10 (Z : State) (o1 : Addr) (o5 : Addr) (o2 : Addr) (kd1 : ClassId) (c1 : Nat) (l1 : List Int32) (o6 : Addr) (kd5 : ClassId) (l5 : List Int32) (cs1 : Int32) (h0 : Heap) (n0 : Nat) (v : Option Value) (h : Heap) (L : List Loc) : Prop := ∃ (o3 : Addr) (kd3 : ClassId) (c3 : Nat), v = some (.ref o1) ∧ Fr n0 L ∧ (o3 = o2 ∨ h0.size ≤ o3) ∧ Keep h0 h [o1, o2] ∧ Fld Z h o1 "java/lang/AbstractStringBuilder" "value" "[B" (.ref o3) ∧ Fld Z h o1 "java/lang/AbstractStringBuilder" "coder" "B" (.int 0) ∧ Fld Z h o1 "java/lang/AbstractStringBuilder" "count" "I" (.int (Int32.ofNat (l1 ++ l5).length)) ∧ Arv Z h o3 kd3 .byte (Int32.ofNat c3) ((l1 ++ l5).map Value.int) (.int 0) ∧ Exa Z h o3 "[B" ∧ c3 ≤ 90 ∧ (l1 ++ l5).length ≤ c3
abbrev y10 : MethodName := (⟨"java/lang/StringBuilder", "append", "(Ljava/lang/String;)Ljava/lang/StringBuilder;"⟩ : MethodName)
theorem rm10 {o1 o5 o2 o6 : Addr} {kd1 kd5 : ClassId} {c1 : Nat} {l1 l5 : List Int32} {cs1 : Int32} (hw : OwnW a0 Z) (Z0 : n0 ≤ h0.size) (F0 : Exa Z h0 o1 "java/lang/StringBuilder") (F1 : Fld Z h0 o1 "java/lang/AbstractStringBuilder" "value" "[B" (.ref o2)) (F2 : Fld Z h0 o1 "java/lang/AbstractStringBuilder" "coder" "B" (.int 0)) (F3 : Fld Z h0 o1 "java/lang/AbstractStringBuilder" "count" "I" (.int (Int32.ofNat l1.length))) (F4 : Arv Z h0 o2 kd1 .byte (Int32.ofNat c1) (l1.map Value.int) (.int 0)) (F5 : Exa Z h0 o2 "[B") (F6 : OEs Z h0 o5) (F7 : OFv Z h0 o5 (.ref o6)) (F8 : OFc Z h0 o5) (F9 : Arv Z h0 o6 kd5 .byte (Int32.ofNat l5.length) (l5.map Value.int) (.int 0)) (F10 : OSc Z h0 cs1) (gn_o1 : n0 ≤ o1) (gn_o2 : n0 ≤ o2) (hcs : ¬ cs1 = (0 : Int32)) (hc : c1 ≤ 90) (hll : l1.length ≤ c1) (hm : l1.length + l5.length ≤ 45) (ne_o1_o2 : o1 ≠ o2) (ne_o1_o5 : o1 ≠ o5) (ne_o1_o6 : o1 ≠ o6) (ne_o2_o5 : o2 ≠ o5) (ne_o2_o6 : o2 ≠ o6) : OwnMF l Z y10 jdk_67_method_7_code 2 (some (.object "java/lang/StringBuilder")) ws ⟨5, 1, 90, 76⟩ #[(.ref o1), (.ref o5)] h0 (Q10 Z o1 o5 o2 kd1 c1 l1 o6 kd5 l5 cs1 h0 n0) := by
  refine bo (plainFor_of_name pn_8) ?_
  intro p e s m below meth c T0 G C hnm hnamed X0 e0 K
  have N0 := Fr.nil n0
  refine Goes.to (congrArg T0.setTop (ef_10rr m o1 o5)) ?_
  have K00 := Keep.refl h0 [o1, o2]
  refine g_aloadN C X0 d10_0 1 rfl rfl ?_
  refine g_aloadN C X0 d10_1 2 rfl rfl ?_
  refine g_callU C X0 (w_63 hw) (w_66 hw) (w_64 hw) (w_65 hw) (w_83 hw) rfl (w_67 hw) (w_47 hw) (by decide) F0 d10_2 [(.ref o5)] [] 0 (rm11 hw Z0 F0 F1 F2 F3 F4 F5 F6 F7 F8 F9 F10 gn_o1 gn_o2 hcs hc hll hm ne_o1_o2 ne_o1_o5 ne_o1_o6 ne_o2_o5 ne_o2_o6) pd_10 e0 5 (fun u1 T1 L1 X1 hQ1 => ?_)
  obtain ⟨o31, kd31, c31, rfl, Nq1, szo31, Kq1, q1_0, q1_1, q1_2, q1_3, q1_4, p1_c90, p1_ll⟩ := hQ1
  have N1 := Fr.app N0 Nq1
  have al_o31 := alt_lift szo31 K00.1
  have K1 := K00.trans Kq1 (allS (Or.inl (List.mem_of_getElem? (i := 0) rfl)) (allS (Or.inl (List.mem_of_getElem? (i := 1) rfl)) all0))
  refine ret1 ?_
  refine g_pop C X1 d10_5 6 rfl ?_
  refine g_aloadN C X1 d10_6 7 rfl rfl ?_
  exact g_retA C X1 K rfl rfl rfl d10_7 (by decide) (by decide) rfl ⟨o31, kd31, c31, rfl, N1, al_o31, K1, q1_0, q1_1, q1_2, q1_3, q1_4, p1_c90, p1_ll⟩
theorem ef_20i (m : MethodId) (a1 : Int32) : entryFrame m #[(.int a1)] 4 = mkF m 0 #[iv a1, uu, uu, uu] [] := by first | (simp [entryFrame, mkF, argsToLocals, Value.category, iv, rv, jv, nv, uu, sd]; done) | rfl
theorem d20_0 : decode jdk_33_method_13_code 0 = .ok (.iconst 1, 1) := by decide +kernel
theorem d20_1 : decode jdk_33_method_13_code 1 = .ok (.istore_n 1, 1) := by decide +kernel
theorem d20_2 : decode jdk_33_method_13_code 2 = .ok (.iload_n 0, 1) := by decide +kernel
theorem d20_3 : decode jdk_33_method_13_code 3 = .ok (.ifCond .lt 8, 3) := by decide +kernel
theorem d20_11 : decode jdk_33_method_13_code 11 = .ok (.bipush (-10), 2) := by decide +kernel
theorem d20_13 : decode jdk_33_method_13_code 13 = .ok (.istore_n 2, 1) := by decide +kernel
theorem d20_14 : decode jdk_33_method_13_code 14 = .ok (.iconst 1, 1) := by decide +kernel
theorem d20_15 : decode jdk_33_method_13_code 15 = .ok (.istore_n 3, 1) := by decide +kernel
theorem d20_16 : decode jdk_33_method_13_code 16 = .ok (.iload_n 3, 1) := by decide +kernel
theorem d20_17 : decode jdk_33_method_13_code 17 = .ok (.bipush 10, 2) := by decide +kernel
theorem d20_19 : decode jdk_33_method_13_code 19 = .ok (.if_icmp .ge 23, 3) := by decide +kernel
theorem d20_22 : decode jdk_33_method_13_code 22 = .ok (.iload_n 0, 1) := by decide +kernel
theorem d20_23 : decode jdk_33_method_13_code 23 = .ok (.iload_n 2, 1) := by decide +kernel
theorem d20_24 : decode jdk_33_method_13_code 24 = .ok (.if_icmp .le 7, 3) := by decide +kernel
theorem d20_31 : decode jdk_33_method_13_code 31 = .ok (.bipush 10, 2) := by decide +kernel
theorem d20_33 : decode jdk_33_method_13_code 33 = .ok (.iload_n 2, 1) := by decide +kernel
theorem d20_34 : decode jdk_33_method_13_code 34 = .ok (.imul, 1) := by decide +kernel
theorem d20_35 : decode jdk_33_method_13_code 35 = .ok (.istore_n 2, 1) := by decide +kernel
theorem d20_36 : decode jdk_33_method_13_code 36 = .ok (.iinc 3 1, 3) := by decide +kernel
theorem d20_39 : decode jdk_33_method_13_code 39 = .ok (.goto (-23), 3) := by decide +kernel
theorem d20_42 : decode jdk_33_method_13_code 42 = .ok (.bipush 10, 2) := by decide +kernel
theorem d20_44 : decode jdk_33_method_13_code 44 = .ok (.iload_n 1, 1) := by decide +kernel
theorem d20_45 : decode jdk_33_method_13_code 45 = .ok (.iadd, 1) := by decide +kernel
theorem d20_46 : decode jdk_33_method_13_code 46 = .ok (.ireturn, 1) := by decide +kernel
theorem d20_27 : decode jdk_33_method_13_code 27 = .ok (.iload_n 3, 1) := by decide +kernel
theorem d20_28 : decode jdk_33_method_13_code 28 = .ok (.iload_n 1, 1) := by decide +kernel
theorem d20_29 : decode jdk_33_method_13_code 29 = .ok (.iadd, 1) := by decide +kernel
theorem d20_30 : decode jdk_33_method_13_code 30 = .ok (.ireturn, 1) := by decide +kernel
theorem d20_6 : decode jdk_33_method_13_code 6 = .ok (.iconst 0, 1) := by decide +kernel
theorem d20_7 : decode jdk_33_method_13_code 7 = .ok (.istore_n 1, 1) := by decide +kernel
theorem d20_8 : decode jdk_33_method_13_code 8 = .ok (.iload_n 0, 1) := by decide +kernel
theorem d20_9 : decode jdk_33_method_13_code 9 = .ok (.ineg, 1) := by decide +kernel
theorem d20_10 : decode jdk_33_method_13_code 10 = .ok (.istore_n 0, 1) := by decide +kernel
def fSize (x0 : Int32) : Int32 := if x0 < (0 : Int32) then if (-10 : Int32) < x0 then ((1 : Int32) + (1 : Int32)) else if ((10 : Int32) * (-10 : Int32)) < x0 then ((2 : Int32) + (1 : Int32)) else if ((10 : Int32) * ((10 : Int32) * (-10 : Int32))) < x0 then ((3 : Int32) + (1 : Int32)) else if ((10 : Int32) * ((10 : Int32) * ((10 : Int32) * (-10 : Int32)))) < x0 then ((4 : Int32) + (1 : Int32)) else if ((10 : Int32) * ((10 : Int32) * ((10 : Int32) * ((10 : Int32) * (-10 : Int32))))) < x0 then ((5 : Int32) + (1 : Int32)) else if ((10 : Int32) * ((10 : Int32) * ((10 : Int32) * ((10 : Int32) * ((10 : Int32) * (-10 : Int32)))))) < x0 then ((6 : Int32) + (1 : Int32)) else if ((10 : Int32) * ((10 : Int32) * ((10 : Int32) * ((10 : Int32) * ((10 : Int32) * ((10 : Int32) * (-10 : Int32))))))) < x0 then ((7 : Int32) + (1 : Int32)) else if ((10 : Int32) * ((10 : Int32) * ((10 : Int32) * ((10 : Int32) * ((10 : Int32) * ((10 : Int32) * ((10 : Int32) * (-10 : Int32)))))))) < x0 then ((8 : Int32) + (1 : Int32)) else if ((10 : Int32) * ((10 : Int32) * ((10 : Int32) * ((10 : Int32) * ((10 : Int32) * ((10 : Int32) * ((10 : Int32) * ((10 : Int32) * (-10 : Int32))))))))) < x0 then ((9 : Int32) + (1 : Int32)) else ((10 : Int32) + (1 : Int32)) else if (-10 : Int32) < (-x0) then ((1 : Int32) + (0 : Int32)) else if ((10 : Int32) * (-10 : Int32)) < (-x0) then ((2 : Int32) + (0 : Int32)) else if ((10 : Int32) * ((10 : Int32) * (-10 : Int32))) < (-x0) then ((3 : Int32) + (0 : Int32)) else if ((10 : Int32) * ((10 : Int32) * ((10 : Int32) * (-10 : Int32)))) < (-x0) then ((4 : Int32) + (0 : Int32)) else if ((10 : Int32) * ((10 : Int32) * ((10 : Int32) * ((10 : Int32) * (-10 : Int32))))) < (-x0) then ((5 : Int32) + (0 : Int32)) else if ((10 : Int32) * ((10 : Int32) * ((10 : Int32) * ((10 : Int32) * ((10 : Int32) * (-10 : Int32)))))) < (-x0) then ((6 : Int32) + (0 : Int32)) else if ((10 : Int32) * ((10 : Int32) * ((10 : Int32) * ((10 : Int32) * ((10 : Int32) * ((10 : Int32) * (-10 : Int32))))))) < (-x0) then ((7 : Int32) + (0 : Int32)) else if ((10 : Int32) * ((10 : Int32) * ((10 : Int32) * ((10 : Int32) * ((10 : Int32) * ((10 : Int32) * ((10 : Int32) * (-10 : Int32)))))))) < (-x0) then ((8 : Int32) + (0 : Int32)) else if ((10 : Int32) * ((10 : Int32) * ((10 : Int32) * ((10 : Int32) * ((10 : Int32) * ((10 : Int32) * ((10 : Int32) * ((10 : Int32) * (-10 : Int32))))))))) < (-x0) then ((9 : Int32) + (0 : Int32)) else ((10 : Int32) + (0 : Int32))
abbrev y20 : MethodName := (⟨"java/lang/Integer", "stringSize", "(I)I"⟩ : MethodName)
theorem pn_20 : plainName "java/lang/Integer" = true := by first | (simp [plainName, overriddenIn]; done) | decide +kernel
theorem rm20 {x0 : Int32} (hw : OwnW a0 Z) (Z0 : n0 ≤ h0.size) : OwnMF l Z y20 jdk_33_method_13_code 4 (some .int) ws ⟨0, 0, 0, 0⟩ #[(.int x0)] h0 (OwnQ (some (.int (fSize x0))) h0 n0) := by
  refine bo (plainFor_of_name pn_20) ?_
  intro p e s m below meth c T0 G C hnm hnamed X0 e0 K
  have N0 := Fr.nil n0
  refine Goes.to (congrArg T0.setTop (ef_20i m x0)) ?_
  refine g_iconst C X0 d20_0 1 (v := 1) rfl ?_
  refine g_istoreN C X0 d20_1 2 (w := 1) rfl (ls' := #[iv x0, iv 1, uu, uu]) rfl ?_
  refine g_iloadN C X0 d20_2 3 rfl ?_
  refine g_if_lt C X0 d20_3 11 6 (fun hc3 => ?_) (fun hc3 => ?_)
  · refine g_bipush C X0 d20_11 13 (v := -10) rfl ?_
    refine g_istoreN C X0 d20_13 14 (w := (-10 : Int32)) rfl (ls' := #[iv x0, iv 1, iv (-10 : Int32), uu]) rfl ?_
    refine g_iconst C X0 d20_14 15 (v := 1) rfl ?_
    refine g_istoreN C X0 d20_15 16 (w := 1) rfl (ls' := #[iv x0, iv 1, iv (-10 : Int32), iv 1]) rfl ?_
    refine g_iloadN C X0 d20_16 17 rfl ?_
    refine g_bipush C X0 d20_17 19 (v := 10) rfl ?_
    refine g_icmp_ge C X0 d20_19 42 22 (fun hc19 => absurd hc19 (by decide)) (fun hc19 => ?_)
    refine g_iloadN C X0 d20_22 23 rfl ?_
    refine g_iloadN C X0 d20_23 24 rfl ?_
    refine g_icmp_le C X0 d20_24 31 27 (fun hc24 => ?_) (fun hc24 => ?_)
    · refine g_bipush C X0 d20_31 33 (v := 10) rfl ?_
      refine g_iloadN C X0 d20_33 34 rfl ?_
      refine g_imul C X0 d20_34 35 ?_
      refine g_istoreN C X0 d20_35 36 (w := ((10 : Int32) * (-10 : Int32))) rfl (ls' := #[iv x0, iv 1, iv ((10 : Int32) * (-10 : Int32)), iv 1]) rfl ?_
      refine g_iinc C X0 d20_36 39 rfl (w := 2) rfl (ls' := #[iv x0, iv 1, iv ((10 : Int32) * (-10 : Int32)), iv 2]) rfl ?_
      refine g_goto C X0 d20_39 16 ?_
      refine g_iloadN C X0 d20_16 17 rfl ?_
      refine g_bipush C X0 d20_17 19 (v := 10) rfl ?_
      refine g_icmp_ge C X0 d20_19 42 22 (fun hc19_1 => absurd hc19_1 (by decide)) (fun hc19_1 => ?_)
      refine g_iloadN C X0 d20_22 23 rfl ?_
      refine g_iloadN C X0 d20_23 24 rfl ?_
      refine g_icmp_le C X0 d20_24 31 27 (fun hc24_1 => ?_) (fun hc24_1 => ?_)
      · refine g_bipush C X0 d20_31 33 (v := 10) rfl ?_
        refine g_iloadN C X0 d20_33 34 rfl ?_
        refine g_imul C X0 d20_34 35 ?_
        refine g_istoreN C X0 d20_35 36 (w := ((10 : Int32) * ((10 : Int32) * (-10 : Int32)))) rfl (ls' := #[iv x0, iv 1, iv ((10 : Int32) * ((10 : Int32) * (-10 : Int32))), iv 2]) rfl ?_
        refine g_iinc C X0 d20_36 39 rfl (w := 3) rfl (ls' := #[iv x0, iv 1, iv ((10 : Int32) * ((10 : Int32) * (-10 : Int32))), iv 3]) rfl ?_
        refine g_goto C X0 d20_39 16 ?_
        refine g_iloadN C X0 d20_16 17 rfl ?_
        refine g_bipush C X0 d20_17 19 (v := 10) rfl ?_
        refine g_icmp_ge C X0 d20_19 42 22 (fun hc19_2 => absurd hc19_2 (by decide)) (fun hc19_2 => ?_)
        refine g_iloadN C X0 d20_22 23 rfl ?_
        refine g_iloadN C X0 d20_23 24 rfl ?_
        refine g_icmp_le C X0 d20_24 31 27 (fun hc24_2 => ?_) (fun hc24_2 => ?_)
        · refine g_bipush C X0 d20_31 33 (v := 10) rfl ?_
          refine g_iloadN C X0 d20_33 34 rfl ?_
          refine g_imul C X0 d20_34 35 ?_
          refine g_istoreN C X0 d20_35 36 (w := ((10 : Int32) * ((10 : Int32) * ((10 : Int32) * (-10 : Int32))))) rfl (ls' := #[iv x0, iv 1, iv ((10 : Int32) * ((10 : Int32) * ((10 : Int32) * (-10 : Int32)))), iv 3]) rfl ?_
          refine g_iinc C X0 d20_36 39 rfl (w := 4) rfl (ls' := #[iv x0, iv 1, iv ((10 : Int32) * ((10 : Int32) * ((10 : Int32) * (-10 : Int32)))), iv 4]) rfl ?_
          refine g_goto C X0 d20_39 16 ?_
          refine g_iloadN C X0 d20_16 17 rfl ?_
          refine g_bipush C X0 d20_17 19 (v := 10) rfl ?_
          refine g_icmp_ge C X0 d20_19 42 22 (fun hc19_3 => absurd hc19_3 (by decide)) (fun hc19_3 => ?_)
          refine g_iloadN C X0 d20_22 23 rfl ?_
          refine g_iloadN C X0 d20_23 24 rfl ?_
          refine g_icmp_le C X0 d20_24 31 27 (fun hc24_3 => ?_) (fun hc24_3 => ?_)
          · refine g_bipush C X0 d20_31 33 (v := 10) rfl ?_
            refine g_iloadN C X0 d20_33 34 rfl ?_
            refine g_imul C X0 d20_34 35 ?_
            refine g_istoreN C X0 d20_35 36 (w := ((10 : Int32) * ((10 : Int32) * ((10 : Int32) * ((10 : Int32) * (-10 : Int32)))))) rfl (ls' := #[iv x0, iv 1, iv ((10 : Int32) * ((10 : Int32) * ((10 : Int32) * ((10 : Int32) * (-10 : Int32))))), iv 4]) rfl ?_
            refine g_iinc C X0 d20_36 39 rfl (w := 5) rfl (ls' := #[iv x0, iv 1, iv ((10 : Int32) * ((10 : Int32) * ((10 : Int32) * ((10 : Int32) * (-10 : Int32))))), iv 5]) rfl ?_
            refine g_goto C X0 d20_39 16 ?_
            refine g_iloadN C X0 d20_16 17 rfl ?_
            refine g_bipush C X0 d20_17 19 (v := 10) rfl ?_
            refine g_icmp_ge C X0 d20_19 42 22 (fun hc19_4 => absurd hc19_4 (by decide)) (fun hc19_4 => ?_)
            refine g_iloadN C X0 d20_22 23 rfl ?_
            refine g_iloadN C X0 d20_23 24 rfl ?_
            refine g_icmp_le C X0 d20_24 31 27 (fun hc24_4 => ?_) (fun hc24_4 => ?_)
            · refine g_bipush C X0 d20_31 33 (v := 10) rfl ?_
              refine g_iloadN C X0 d20_33 34 rfl ?_
              refine g_imul C X0 d20_34 35 ?_
              refine g_istoreN C X0 d20_35 36 (w := ((10 : Int32) * ((10 : Int32) * ((10 : Int32) * ((10 : Int32) * ((10 : Int32) * (-10 : Int32))))))) rfl (ls' := #[iv x0, iv 1, iv ((10 : Int32) * ((10 : Int32) * ((10 : Int32) * ((10 : Int32) * ((10 : Int32) * (-10 : Int32)))))), iv 5]) rfl ?_
              refine g_iinc C X0 d20_36 39 rfl (w := 6) rfl (ls' := #[iv x0, iv 1, iv ((10 : Int32) * ((10 : Int32) * ((10 : Int32) * ((10 : Int32) * ((10 : Int32) * (-10 : Int32)))))), iv 6]) rfl ?_
              refine g_goto C X0 d20_39 16 ?_
              refine g_iloadN C X0 d20_16 17 rfl ?_
              refine g_bipush C X0 d20_17 19 (v := 10) rfl ?_
              refine g_icmp_ge C X0 d20_19 42 22 (fun hc19_5 => absurd hc19_5 (by decide)) (fun hc19_5 => ?_)
              refine g_iloadN C X0 d20_22 23 rfl ?_
              refine g_iloadN C X0 d20_23 24 rfl ?_
              refine g_icmp_le C X0 d20_24 31 27 (fun hc24_5 => ?_) (fun hc24_5 => ?_)
              · refine g_bipush C X0 d20_31 33 (v := 10) rfl ?_
                refine g_iloadN C X0 d20_33 34 rfl ?_
                refine g_imul C X0 d20_34 35 ?_
                refine g_istoreN C X0 d20_35 36 (w := ((10 : Int32) * ((10 : Int32) * ((10 : Int32) * ((10 : Int32) * ((10 : Int32) * ((10 : Int32) * (-10 : Int32)))))))) rfl (ls' := #[iv x0, iv 1, iv ((10 : Int32) * ((10 : Int32) * ((10 : Int32) * ((10 : Int32) * ((10 : Int32) * ((10 : Int32) * (-10 : Int32))))))), iv 6]) rfl ?_
                refine g_iinc C X0 d20_36 39 rfl (w := 7) rfl (ls' := #[iv x0, iv 1, iv ((10 : Int32) * ((10 : Int32) * ((10 : Int32) * ((10 : Int32) * ((10 : Int32) * ((10 : Int32) * (-10 : Int32))))))), iv 7]) rfl ?_
                refine g_goto C X0 d20_39 16 ?_
                refine g_iloadN C X0 d20_16 17 rfl ?_
                refine g_bipush C X0 d20_17 19 (v := 10) rfl ?_
                refine g_icmp_ge C X0 d20_19 42 22 (fun hc19_6 => absurd hc19_6 (by decide)) (fun hc19_6 => ?_)
                refine g_iloadN C X0 d20_22 23 rfl ?_
                refine g_iloadN C X0 d20_23 24 rfl ?_
                refine g_icmp_le C X0 d20_24 31 27 (fun hc24_6 => ?_) (fun hc24_6 => ?_)
                · refine g_bipush C X0 d20_31 33 (v := 10) rfl ?_
                  refine g_iloadN C X0 d20_33 34 rfl ?_
                  refine g_imul C X0 d20_34 35 ?_
                  refine g_istoreN C X0 d20_35 36 (w := ((10 : Int32) * ((10 : Int32) * ((10 : Int32) * ((10 : Int32) * ((10 : Int32) * ((10 : Int32) * ((10 : Int32) * (-10 : Int32))))))))) rfl (ls' := #[iv x0, iv 1, iv ((10 : Int32) * ((10 : Int32) * ((10 : Int32) * ((10 : Int32) * ((10 : Int32) * ((10 : Int32) * ((10 : Int32) * (-10 : Int32)))))))), iv 7]) rfl ?_
                  refine g_iinc C X0 d20_36 39 rfl (w := 8) rfl (ls' := #[iv x0, iv 1, iv ((10 : Int32) * ((10 : Int32) * ((10 : Int32) * ((10 : Int32) * ((10 : Int32) * ((10 : Int32) * ((10 : Int32) * (-10 : Int32)))))))), iv 8]) rfl ?_
                  refine g_goto C X0 d20_39 16 ?_
                  refine g_iloadN C X0 d20_16 17 rfl ?_
                  refine g_bipush C X0 d20_17 19 (v := 10) rfl ?_
                  refine g_icmp_ge C X0 d20_19 42 22 (fun hc19_7 => absurd hc19_7 (by decide)) (fun hc19_7 => ?_)
                  refine g_iloadN C X0 d20_22 23 rfl ?_
                  refine g_iloadN C X0 d20_23 24 rfl ?_
                  refine g_icmp_le C X0 d20_24 31 27 (fun hc24_7 => ?_) (fun hc24_7 => ?_)
                  · refine g_bipush C X0 d20_31 33 (v := 10) rfl ?_
                    refine g_iloadN C X0 d20_33 34 rfl ?_
                    refine g_imul C X0 d20_34 35 ?_
                    refine g_istoreN C X0 d20_35 36 (w := ((10 : Int32) * ((10 : Int32) * ((10 : Int32) * ((10 : Int32) * ((10 : Int32) * ((10 : Int32) * ((10 : Int32) * ((10 : Int32) * (-10 : Int32)))))))))) rfl (ls' := #[iv x0, iv 1, iv ((10 : Int32) * ((10 : Int32) * ((10 : Int32) * ((10 : Int32) * ((10 : Int32) * ((10 : Int32) * ((10 : Int32) * ((10 : Int32) * (-10 : Int32))))))))), iv 8]) rfl ?_
                    refine g_iinc C X0 d20_36 39 rfl (w := 9) rfl (ls' := #[iv x0, iv 1, iv ((10 : Int32) * ((10 : Int32) * ((10 : Int32) * ((10 : Int32) * ((10 : Int32) * ((10 : Int32) * ((10 : Int32) * ((10 : Int32) * (-10 : Int32))))))))), iv 9]) rfl ?_
                    refine g_goto C X0 d20_39 16 ?_
                    refine g_iloadN C X0 d20_16 17 rfl ?_
                    refine g_bipush C X0 d20_17 19 (v := 10) rfl ?_
                    refine g_icmp_ge C X0 d20_19 42 22 (fun hc19_8 => absurd hc19_8 (by decide)) (fun hc19_8 => ?_)
                    refine g_iloadN C X0 d20_22 23 rfl ?_
                    refine g_iloadN C X0 d20_23 24 rfl ?_
                    refine g_icmp_le C X0 d20_24 31 27 (fun hc24_8 => ?_) (fun hc24_8 => ?_)
                    · refine g_bipush C X0 d20_31 33 (v := 10) rfl ?_
                      refine g_iloadN C X0 d20_33 34 rfl ?_
                      refine g_imul C X0 d20_34 35 ?_
                      refine g_istoreN C X0 d20_35 36 (w := ((10 : Int32) * ((10 : Int32) * ((10 : Int32) * ((10 : Int32) * ((10 : Int32) * ((10 : Int32) * ((10 : Int32) * ((10 : Int32) * ((10 : Int32) * (-10 : Int32))))))))))) rfl (ls' := #[iv x0, iv 1, iv ((10 : Int32) * ((10 : Int32) * ((10 : Int32) * ((10 : Int32) * ((10 : Int32) * ((10 : Int32) * ((10 : Int32) * ((10 : Int32) * ((10 : Int32) * (-10 : Int32)))))))))), iv 9]) rfl ?_
                      refine g_iinc C X0 d20_36 39 rfl (w := 10) rfl (ls' := #[iv x0, iv 1, iv ((10 : Int32) * ((10 : Int32) * ((10 : Int32) * ((10 : Int32) * ((10 : Int32) * ((10 : Int32) * ((10 : Int32) * ((10 : Int32) * ((10 : Int32) * (-10 : Int32)))))))))), iv 10]) rfl ?_
                      refine g_goto C X0 d20_39 16 ?_
                      refine g_iloadN C X0 d20_16 17 rfl ?_
                      refine g_bipush C X0 d20_17 19 (v := 10) rfl ?_
                      refine g_icmp_ge C X0 d20_19 42 22 (fun hc19_9 => ?_) (fun hc19_9 => absurd hc19_9 (by decide))
                      refine g_bipush C X0 d20_42 44 (v := 10) rfl ?_
                      refine g_iloadN C X0 d20_44 45 rfl ?_
                      refine g_iadd C X0 d20_45 46 ?_
                      exact g_retI C X0 K d20_46 (by decide) (by decide) e0 ⟨by (unfold fSize; rw [if_pos hc3, if_neg hc24, if_neg hc24_1, if_neg hc24_2, if_neg hc24_3, if_neg hc24_4, if_neg hc24_5, if_neg hc24_6, if_neg hc24_7, if_neg hc24_8]) <;> rfl, N0, rfl⟩
                    · refine g_iloadN C X0 d20_27 28 rfl ?_
                      refine g_iloadN C X0 d20_28 29 rfl ?_
                      refine g_iadd C X0 d20_29 30 ?_
                      exact g_retI C X0 K d20_30 (by decide) (by decide) e0 ⟨by (unfold fSize; rw [if_pos hc3, if_neg hc24, if_neg hc24_1, if_neg hc24_2, if_neg hc24_3, if_neg hc24_4, if_neg hc24_5, if_neg hc24_6, if_neg hc24_7, if_pos hc24_8]) <;> rfl, N0, rfl⟩
                  · refine g_iloadN C X0 d20_27 28 rfl ?_
                    refine g_iloadN C X0 d20_28 29 rfl ?_
                    refine g_iadd C X0 d20_29 30 ?_
                    exact g_retI C X0 K d20_30 (by decide) (by decide) e0 ⟨by (unfold fSize; rw [if_pos hc3, if_neg hc24, if_neg hc24_1, if_neg hc24_2, if_neg hc24_3, if_neg hc24_4, if_neg hc24_5, if_neg hc24_6, if_pos hc24_7]) <;> rfl, N0, rfl⟩
                · refine g_iloadN C X0 d20_27 28 rfl ?_
                  refine g_iloadN C X0 d20_28 29 rfl ?_
                  refine g_iadd C X0 d20_29 30 ?_
                  exact g_retI C X0 K d20_30 (by decide) (by decide) e0 ⟨by (unfold fSize; rw [if_pos hc3, if_neg hc24, if_neg hc24_1, if_neg hc24_2, if_neg hc24_3, if_neg hc24_4, if_neg hc24_5, if_pos hc24_6]) <;> rfl, N0, rfl⟩
              · refine g_iloadN C X0 d20_27 28 rfl ?_
                refine g_iloadN C X0 d20_28 29 rfl ?_
                refine g_iadd C X0 d20_29 30 ?_
                exact g_retI C X0 K d20_30 (by decide) (by decide) e0 ⟨by (unfold fSize; rw [if_pos hc3, if_neg hc24, if_neg hc24_1, if_neg hc24_2, if_neg hc24_3, if_neg hc24_4, if_pos hc24_5]) <;> rfl, N0, rfl⟩
            · refine g_iloadN C X0 d20_27 28 rfl ?_
              refine g_iloadN C X0 d20_28 29 rfl ?_
              refine g_iadd C X0 d20_29 30 ?_
              exact g_retI C X0 K d20_30 (by decide) (by decide) e0 ⟨by (unfold fSize; rw [if_pos hc3, if_neg hc24, if_neg hc24_1, if_neg hc24_2, if_neg hc24_3, if_pos hc24_4]) <;> rfl, N0, rfl⟩
          · refine g_iloadN C X0 d20_27 28 rfl ?_
            refine g_iloadN C X0 d20_28 29 rfl ?_
            refine g_iadd C X0 d20_29 30 ?_
            exact g_retI C X0 K d20_30 (by decide) (by decide) e0 ⟨by (unfold fSize; rw [if_pos hc3, if_neg hc24, if_neg hc24_1, if_neg hc24_2, if_pos hc24_3]) <;> rfl, N0, rfl⟩
        · refine g_iloadN C X0 d20_27 28 rfl ?_
          refine g_iloadN C X0 d20_28 29 rfl ?_
          refine g_iadd C X0 d20_29 30 ?_
          exact g_retI C X0 K d20_30 (by decide) (by decide) e0 ⟨by (unfold fSize; rw [if_pos hc3, if_neg hc24, if_neg hc24_1, if_pos hc24_2]) <;> rfl, N0, rfl⟩
      · refine g_iloadN C X0 d20_27 28 rfl ?_
        refine g_iloadN C X0 d20_28 29 rfl ?_
        refine g_iadd C X0 d20_29 30 ?_
        exact g_retI C X0 K d20_30 (by decide) (by decide) e0 ⟨by (unfold fSize; rw [if_pos hc3, if_neg hc24, if_pos hc24_1]) <;> rfl, N0, rfl⟩
    · refine g_iloadN C X0 d20_27 28 rfl ?_
      refine g_iloadN C X0 d20_28 29 rfl ?_
      refine g_iadd C X0 d20_29 30 ?_
      exact g_retI C X0 K d20_30 (by decide) (by decide) e0 ⟨by (unfold fSize; rw [if_pos hc3, if_pos hc24]) <;> rfl, N0, rfl⟩
  · refine g_iconst C X0 d20_6 7 (v := 0) rfl ?_
    refine g_istoreN C X0 d20_7 8 (w := 0) rfl (ls' := #[iv x0, iv 0, uu, uu]) rfl ?_
    refine g_iloadN C X0 d20_8 9 rfl ?_
    refine g_ineg C X0 d20_9 10 ?_
    refine g_istoreN C X0 d20_10 11 (w := (-x0)) rfl (ls' := #[iv (-x0), iv 0, uu, uu]) rfl ?_
    refine g_bipush C X0 d20_11 13 (v := -10) rfl ?_
    refine g_istoreN C X0 d20_13 14 (w := (-10 : Int32)) rfl (ls' := #[iv (-x0), iv 0, iv (-10 : Int32), uu]) rfl ?_
    refine g_iconst C X0 d20_14 15 (v := 1) rfl ?_
    refine g_istoreN C X0 d20_15 16 (w := 1) rfl (ls' := #[iv (-x0), iv 0, iv (-10 : Int32), iv 1]) rfl ?_
    refine g_iloadN C X0 d20_16 17 rfl ?_
    refine g_bipush C X0 d20_17 19 (v := 10) rfl ?_
    refine g_icmp_ge C X0 d20_19 42 22 (fun hc19 => absurd hc19 (by decide)) (fun hc19 => ?_)
    refine g_iloadN C X0 d20_22 23 rfl ?_
    refine g_iloadN C X0 d20_23 24 rfl ?_
    refine g_icmp_le C X0 d20_24 31 27 (fun hc24 => ?_) (fun hc24 => ?_)
    · refine g_bipush C X0 d20_31 33 (v := 10) rfl ?_
      refine g_iloadN C X0 d20_33 34 rfl ?_
      refine g_imul C X0 d20_34 35 ?_
      refine g_istoreN C X0 d20_35 36 (w := ((10 : Int32) * (-10 : Int32))) rfl (ls' := #[iv (-x0), iv 0, iv ((10 : Int32) * (-10 : Int32)), iv 1]) rfl ?_
      refine g_iinc C X0 d20_36 39 rfl (w := 2) rfl (ls' := #[iv (-x0), iv 0, iv ((10 : Int32) * (-10 : Int32)), iv 2]) rfl ?_
      refine g_goto C X0 d20_39 16 ?_
      refine g_iloadN C X0 d20_16 17 rfl ?_
      refine g_bipush C X0 d20_17 19 (v := 10) rfl ?_
      refine g_icmp_ge C X0 d20_19 42 22 (fun hc19_1 => absurd hc19_1 (by decide)) (fun hc19_1 => ?_)
      refine g_iloadN C X0 d20_22 23 rfl ?_
      refine g_iloadN C X0 d20_23 24 rfl ?_
      refine g_icmp_le C X0 d20_24 31 27 (fun hc24_1 => ?_) (fun hc24_1 => ?_)
      · refine g_bipush C X0 d20_31 33 (v := 10) rfl ?_
        refine g_iloadN C X0 d20_33 34 rfl ?_
        refine g_imul C X0 d20_34 35 ?_
        refine g_istoreN C X0 d20_35 36 (w := ((10 : Int32) * ((10 : Int32) * (-10 : Int32)))) rfl (ls' := #[iv (-x0), iv 0, iv ((10 : Int32) * ((10 : Int32) * (-10 : Int32))), iv 2]) rfl ?_
        refine g_iinc C X0 d20_36 39 rfl (w := 3) rfl (ls' := #[iv (-x0), iv 0, iv ((10 : Int32) * ((10 : Int32) * (-10 : Int32))), iv 3]) rfl ?_
        refine g_goto C X0 d20_39 16 ?_
        refine g_iloadN C X0 d20_16 17 rfl ?_
        refine g_bipush C X0 d20_17 19 (v := 10) rfl ?_
        refine g_icmp_ge C X0 d20_19 42 22 (fun hc19_2 => absurd hc19_2 (by decide)) (fun hc19_2 => ?_)
        refine g_iloadN C X0 d20_22 23 rfl ?_
        refine g_iloadN C X0 d20_23 24 rfl ?_
        refine g_icmp_le C X0 d20_24 31 27 (fun hc24_2 => ?_) (fun hc24_2 => ?_)
        · refine g_bipush C X0 d20_31 33 (v := 10) rfl ?_
          refine g_iloadN C X0 d20_33 34 rfl ?_
          refine g_imul C X0 d20_34 35 ?_
          refine g_istoreN C X0 d20_35 36 (w := ((10 : Int32) * ((10 : Int32) * ((10 : Int32) * (-10 : Int32))))) rfl (ls' := #[iv (-x0), iv 0, iv ((10 : Int32) * ((10 : Int32) * ((10 : Int32) * (-10 : Int32)))), iv 3]) rfl ?_
          refine g_iinc C X0 d20_36 39 rfl (w := 4) rfl (ls' := #[iv (-x0), iv 0, iv ((10 : Int32) * ((10 : Int32) * ((10 : Int32) * (-10 : Int32)))), iv 4]) rfl ?_
          refine g_goto C X0 d20_39 16 ?_
          refine g_iloadN C X0 d20_16 17 rfl ?_
          refine g_bipush C X0 d20_17 19 (v := 10) rfl ?_
          refine g_icmp_ge C X0 d20_19 42 22 (fun hc19_3 => absurd hc19_3 (by decide)) (fun hc19_3 => ?_)
          refine g_iloadN C X0 d20_22 23 rfl ?_
          refine g_iloadN C X0 d20_23 24 rfl ?_
          refine g_icmp_le C X0 d20_24 31 27 (fun hc24_3 => ?_) (fun hc24_3 => ?_)
          · refine g_bipush C X0 d20_31 33 (v := 10) rfl ?_
            refine g_iloadN C X0 d20_33 34 rfl ?_
            refine g_imul C X0 d20_34 35 ?_
            refine g_istoreN C X0 d20_35 36 (w := ((10 : Int32) * ((10 : Int32) * ((10 : Int32) * ((10 : Int32) * (-10 : Int32)))))) rfl (ls' := #[iv (-x0), iv 0, iv ((10 : Int32) * ((10 : Int32) * ((10 : Int32) * ((10 : Int32) * (-10 : Int32))))), iv 4]) rfl ?_
            refine g_iinc C X0 d20_36 39 rfl (w := 5) rfl (ls' := #[iv (-x0), iv 0, iv ((10 : Int32) * ((10 : Int32) * ((10 : Int32) * ((10 : Int32) * (-10 : Int32))))), iv 5]) rfl ?_
            refine g_goto C X0 d20_39 16 ?_
            refine g_iloadN C X0 d20_16 17 rfl ?_
            refine g_bipush C X0 d20_17 19 (v := 10) rfl ?_
            refine g_icmp_ge C X0 d20_19 42 22 (fun hc19_4 => absurd hc19_4 (by decide)) (fun hc19_4 => ?_)
            refine g_iloadN C X0 d20_22 23 rfl ?_
            refine g_iloadN C X0 d20_23 24 rfl ?_
            refine g_icmp_le C X0 d20_24 31 27 (fun hc24_4 => ?_) (fun hc24_4 => ?_)
            · refine g_bipush C X0 d20_31 33 (v := 10) rfl ?_
              refine g_iloadN C X0 d20_33 34 rfl ?_
              refine g_imul C X0 d20_34 35 ?_
              refine g_istoreN C X0 d20_35 36 (w := ((10 : Int32) * ((10 : Int32) * ((10 : Int32) * ((10 : Int32) * ((10 : Int32) * (-10 : Int32))))))) rfl (ls' := #[iv (-x0), iv 0, iv ((10 : Int32) * ((10 : Int32) * ((10 : Int32) * ((10 : Int32) * ((10 : Int32) * (-10 : Int32)))))), iv 5]) rfl ?_
              refine g_iinc C X0 d20_36 39 rfl (w := 6) rfl (ls' := #[iv (-x0), iv 0, iv ((10 : Int32) * ((10 : Int32) * ((10 : Int32) * ((10 : Int32) * ((10 : Int32) * (-10 : Int32)))))), iv 6]) rfl ?_
              refine g_goto C X0 d20_39 16 ?_
              refine g_iloadN C X0 d20_16 17 rfl ?_
              refine g_bipush C X0 d20_17 19 (v := 10) rfl ?_
              refine g_icmp_ge C X0 d20_19 42 22 (fun hc19_5 => absurd hc19_5 (by decide)) (fun hc19_5 => ?_)
              refine g_iloadN C X0 d20_22 23 rfl ?_
              refine g_iloadN C X0 d20_23 24 rfl ?_
              refine g_icmp_le C X0 d20_24 31 27 (fun hc24_5 => ?_) (fun hc24_5 => ?_)
              · refine g_bipush C X0 d20_31 33 (v := 10) rfl ?_
                refine g_iloadN C X0 d20_33 34 rfl ?_
                refine g_imul C X0 d20_34 35 ?_
                refine g_istoreN C X0 d20_35 36 (w := ((10 : Int32) * ((10 : Int32) * ((10 : Int32) * ((10 : Int32) * ((10 : Int32) * ((10 : Int32) * (-10 : Int32)))))))) rfl (ls' := #[iv (-x0), iv 0, iv ((10 : Int32) * ((10 : Int32) * ((10 : Int32) * ((10 : Int32) * ((10 : Int32) * ((10 : Int32) * (-10 : Int32))))))), iv 6]) rfl ?_
                refine g_iinc C X0 d20_36 39 rfl (w := 7) rfl (ls' := #[iv (-x0), iv 0, iv ((10 : Int32) * ((10 : Int32) * ((10 : Int32) * ((10 : Int32) * ((10 : Int32) * ((10 : Int32) * (-10 : Int32))))))), iv 7]) rfl ?_
                refine g_goto C X0 d20_39 16 ?_
                refine g_iloadN C X0 d20_16 17 rfl ?_
                refine g_bipush C X0 d20_17 19 (v := 10) rfl ?_
                refine g_icmp_ge C X0 d20_19 42 22 (fun hc19_6 => absurd hc19_6 (by decide)) (fun hc19_6 => ?_)
                refine g_iloadN C X0 d20_22 23 rfl ?_
                refine g_iloadN C X0 d20_23 24 rfl ?_
                refine g_icmp_le C X0 d20_24 31 27 (fun hc24_6 => ?_) (fun hc24_6 => ?_)
                · refine g_bipush C X0 d20_31 33 (v := 10) rfl ?_
                  refine g_iloadN C X0 d20_33 34 rfl ?_
                  refine g_imul C X0 d20_34 35 ?_
                  refine g_istoreN C X0 d20_35 36 (w := ((10 : Int32) * ((10 : Int32) * ((10 : Int32) * ((10 : Int32) * ((10 : Int32) * ((10 : Int32) * ((10 : Int32) * (-10 : Int32))))))))) rfl (ls' := #[iv (-x0), iv 0, iv ((10 : Int32) * ((10 : Int32) * ((10 : Int32) * ((10 : Int32) * ((10 : Int32) * ((10 : Int32) * ((10 : Int32) * (-10 : Int32)))))))), iv 7]) rfl ?_
                  refine g_iinc C X0 d20_36 39 rfl (w := 8) rfl (ls' := #[iv (-x0), iv 0, iv ((10 : Int32) * ((10 : Int32) * ((10 : Int32) * ((10 : Int32) * ((10 : Int32) * ((10 : Int32) * ((10 : Int32) * (-10 : Int32)))))))), iv 8]) rfl ?_
                  refine g_goto C X0 d20_39 16 ?_
                  refine g_iloadN C X0 d20_16 17 rfl ?_
                  refine g_bipush C X0 d20_17 19 (v := 10) rfl ?_
                  refine g_icmp_ge C X0 d20_19 42 22 (fun hc19_7 => absurd hc19_7 (by decide)) (fun hc19_7 => ?_)
                  refine g_iloadN C X0 d20_22 23 rfl ?_
                  refine g_iloadN C X0 d20_23 24 rfl ?_
                  refine g_icmp_le C X0 d20_24 31 27 (fun hc24_7 => ?_) (fun hc24_7 => ?_)
                  · refine g_bipush C X0 d20_31 33 (v := 10) rfl ?_
                    refine g_iloadN C X0 d20_33 34 rfl ?_
                    refine g_imul C X0 d20_34 35 ?_
                    refine g_istoreN C X0 d20_35 36 (w := ((10 : Int32) * ((10 : Int32) * ((10 : Int32) * ((10 : Int32) * ((10 : Int32) * ((10 : Int32) * ((10 : Int32) * ((10 : Int32) * (-10 : Int32)))))))))) rfl (ls' := #[iv (-x0), iv 0, iv ((10 : Int32) * ((10 : Int32) * ((10 : Int32) * ((10 : Int32) * ((10 : Int32) * ((10 : Int32) * ((10 : Int32) * ((10 : Int32) * (-10 : Int32))))))))), iv 8]) rfl ?_
                    refine g_iinc C X0 d20_36 39 rfl (w := 9) rfl (ls' := #[iv (-x0), iv 0, iv ((10 : Int32) * ((10 : Int32) * ((10 : Int32) * ((10 : Int32) * ((10 : Int32) * ((10 : Int32) * ((10 : Int32) * ((10 : Int32) * (-10 : Int32))))))))), iv 9]) rfl ?_
                    refine g_goto C X0 d20_39 16 ?_
                    refine g_iloadN C X0 d20_16 17 rfl ?_
                    refine g_bipush C X0 d20_17 19 (v := 10) rfl ?_
                    refine g_icmp_ge C X0 d20_19 42 22 (fun hc19_8 => absurd hc19_8 (by decide)) (fun hc19_8 => ?_)
                    refine g_iloadN C X0 d20_22 23 rfl ?_
                    refine g_iloadN C X0 d20_23 24 rfl ?_
                    refine g_icmp_le C X0 d20_24 31 27 (fun hc24_8 => ?_) (fun hc24_8 => ?_)
                    · refine g_bipush C X0 d20_31 33 (v := 10) rfl ?_
                      refine g_iloadN C X0 d20_33 34 rfl ?_
                      refine g_imul C X0 d20_34 35 ?_
                      refine g_istoreN C X0 d20_35 36 (w := ((10 : Int32) * ((10 : Int32) * ((10 : Int32) * ((10 : Int32) * ((10 : Int32) * ((10 : Int32) * ((10 : Int32) * ((10 : Int32) * ((10 : Int32) * (-10 : Int32))))))))))) rfl (ls' := #[iv (-x0), iv 0, iv ((10 : Int32) * ((10 : Int32) * ((10 : Int32) * ((10 : Int32) * ((10 : Int32) * ((10 : Int32) * ((10 : Int32) * ((10 : Int32) * ((10 : Int32) * (-10 : Int32)))))))))), iv 9]) rfl ?_
                      refine g_iinc C X0 d20_36 39 rfl (w := 10) rfl (ls' := #[iv (-x0), iv 0, iv ((10 : Int32) * ((10 : Int32) * ((10 : Int32) * ((10 : Int32) * ((10 : Int32) * ((10 : Int32) * ((10 : Int32) * ((10 : Int32) * ((10 : Int32) * (-10 : Int32)))))))))), iv 10]) rfl ?_
                      refine g_goto C X0 d20_39 16 ?_
                      refine g_iloadN C X0 d20_16 17 rfl ?_
                      refine g_bipush C X0 d20_17 19 (v := 10) rfl ?_
                      refine g_icmp_ge C X0 d20_19 42 22 (fun hc19_9 => ?_) (fun hc19_9 => absurd hc19_9 (by decide))
                      refine g_bipush C X0 d20_42 44 (v := 10) rfl ?_
                      refine g_iloadN C X0 d20_44 45 rfl ?_
                      refine g_iadd C X0 d20_45 46 ?_
                      exact g_retI C X0 K d20_46 (by decide) (by decide) e0 ⟨by (unfold fSize; rw [if_neg hc3, if_neg hc24, if_neg hc24_1, if_neg hc24_2, if_neg hc24_3, if_neg hc24_4, if_neg hc24_5, if_neg hc24_6, if_neg hc24_7, if_neg hc24_8]) <;> rfl, N0, rfl⟩
                    · refine g_iloadN C X0 d20_27 28 rfl ?_
                      refine g_iloadN C X0 d20_28 29 rfl ?_
                      refine g_iadd C X0 d20_29 30 ?_
                      exact g_retI C X0 K d20_30 (by decide) (by decide) e0 ⟨by (unfold fSize; rw [if_neg hc3, if_neg hc24, if_neg hc24_1, if_neg hc24_2, if_neg hc24_3, if_neg hc24_4, if_neg hc24_5, if_neg hc24_6, if_neg hc24_7, if_pos hc24_8]) <;> rfl, N0, rfl⟩
                  · refine g_iloadN C X0 d20_27 28 rfl ?_
                    refine g_iloadN C X0 d20_28 29 rfl ?_
                    refine g_iadd C X0 d20_29 30 ?_
                    exact g_retI C X0 K d20_30 (by decide) (by decide) e0 ⟨by (unfold fSize; rw [if_neg hc3, if_neg hc24, if_neg hc24_1, if_neg hc24_2, if_neg hc24_3, if_neg hc24_4, if_neg hc24_5, if_neg hc24_6, if_pos hc24_7]) <;> rfl, N0, rfl⟩
                · refine g_iloadN C X0 d20_27 28 rfl ?_
                  refine g_iloadN C X0 d20_28 29 rfl ?_
                  refine g_iadd C X0 d20_29 30 ?_
                  exact g_retI C X0 K d20_30 (by decide) (by decide) e0 ⟨by (unfold fSize; rw [if_neg hc3, if_neg hc24, if_neg hc24_1, if_neg hc24_2, if_neg hc24_3, if_neg hc24_4, if_neg hc24_5, if_pos hc24_6]) <;> rfl, N0, rfl⟩
              · refine g_iloadN C X0 d20_27 28 rfl ?_
                refine g_iloadN C X0 d20_28 29 rfl ?_
                refine g_iadd C X0 d20_29 30 ?_
                exact g_retI C X0 K d20_30 (by decide) (by decide) e0 ⟨by (unfold fSize; rw [if_neg hc3, if_neg hc24, if_neg hc24_1, if_neg hc24_2, if_neg hc24_3, if_neg hc24_4, if_pos hc24_5]) <;> rfl, N0, rfl⟩
            · refine g_iloadN C X0 d20_27 28 rfl ?_
              refine g_iloadN C X0 d20_28 29 rfl ?_
              refine g_iadd C X0 d20_29 30 ?_
              exact g_retI C X0 K d20_30 (by decide) (by decide) e0 ⟨by (unfold fSize; rw [if_neg hc3, if_neg hc24, if_neg hc24_1, if_neg hc24_2, if_neg hc24_3, if_pos hc24_4]) <;> rfl, N0, rfl⟩
          · refine g_iloadN C X0 d20_27 28 rfl ?_
            refine g_iloadN C X0 d20_28 29 rfl ?_
            refine g_iadd C X0 d20_29 30 ?_
            exact g_retI C X0 K d20_30 (by decide) (by decide) e0 ⟨by (unfold fSize; rw [if_neg hc3, if_neg hc24, if_neg hc24_1, if_neg hc24_2, if_pos hc24_3]) <;> rfl, N0, rfl⟩
        · refine g_iloadN C X0 d20_27 28 rfl ?_
          refine g_iloadN C X0 d20_28 29 rfl ?_
          refine g_iadd C X0 d20_29 30 ?_
          exact g_retI C X0 K d20_30 (by decide) (by decide) e0 ⟨by (unfold fSize; rw [if_neg hc3, if_neg hc24, if_neg hc24_1, if_pos hc24_2]) <;> rfl, N0, rfl⟩
      · refine g_iloadN C X0 d20_27 28 rfl ?_
        refine g_iloadN C X0 d20_28 29 rfl ?_
        refine g_iadd C X0 d20_29 30 ?_
        exact g_retI C X0 K d20_30 (by decide) (by decide) e0 ⟨by (unfold fSize; rw [if_neg hc3, if_neg hc24, if_pos hc24_1]) <;> rfl, N0, rfl⟩
    · refine g_iloadN C X0 d20_27 28 rfl ?_
      refine g_iloadN C X0 d20_28 29 rfl ?_
      refine g_iadd C X0 d20_29 30 ?_
      exact g_retI C X0 K d20_30 (by decide) (by decide) e0 ⟨by (unfold fSize; rw [if_neg hc3, if_pos hc24]) <;> rfl, N0, rfl⟩
def sizeT (x a : Int32) : Int32 := if (-10 : Int32) < x then ((1 : Int32) + a) else if ((10 : Int32) * (-10 : Int32)) < x then ((2 : Int32) + a) else if ((10 : Int32) * ((10 : Int32) * (-10 : Int32))) < x then ((3 : Int32) + a) else if ((10 : Int32) * ((10 : Int32) * ((10 : Int32) * (-10 : Int32)))) < x then ((4 : Int32) + a) else if ((10 : Int32) * ((10 : Int32) * ((10 : Int32) * ((10 : Int32) * (-10 : Int32))))) < x then ((5 : Int32) + a) else if ((10 : Int32) * ((10 : Int32) * ((10 : Int32) * ((10 : Int32) * ((10 : Int32) * (-10 : Int32)))))) < x then ((6 : Int32) + a) else if ((10 : Int32) * ((10 : Int32) * ((10 : Int32) * ((10 : Int32) * ((10 : Int32) * ((10 : Int32) * (-10 : Int32))))))) < x then ((7 : Int32) + a) else if ((10 : Int32) * ((10 : Int32) * ((10 : Int32) * ((10 : Int32) * ((10 : Int32) * ((10 : Int32) * ((10 : Int32) * (-10 : Int32)))))))) < x then ((8 : Int32) + a) else if ((10 : Int32) * ((10 : Int32) * ((10 : Int32) * ((10 : Int32) * ((10 : Int32) * ((10 : Int32) * ((10 : Int32) * ((10 : Int32) * (-10 : Int32))))))))) < x then ((9 : Int32) + a) else ((10 : Int32) + a)
theorem sizeT_eq {n : Nat} (hn : n ≤ 2 ^ 31) (a : Int32) : sizeT (ng n) a = Int32.ofNat (dg n) + a := by
  unfold sizeT dg
  simp only [ng_gt hn (-10 : Int32) 10 (by decide), ng_gt hn ((10 : Int32) * (-10 : Int32)) 100 (by decide), ng_gt hn ((10 : Int32) * ((10 : Int32) * (-10 : Int32))) 1000 (by decide), ng_gt hn ((10 : Int32) * ((10 : Int32) * ((10 : Int32) * (-10 : Int32)))) 10000 (by decide), ng_gt hn ((10 : Int32) * ((10 : Int32) * ((10 : Int32) * ((10 : Int32) * (-10 : Int32))))) 100000 (by decide), ng_gt hn ((10 : Int32) * ((10 : Int32) * ((10 : Int32) * ((10 : Int32) * ((10 : Int32) * (-10 : Int32)))))) 1000000 (by decide), ng_gt hn ((10 : Int32) * ((10 : Int32) * ((10 : Int32) * ((10 : Int32) * ((10 : Int32) * ((10 : Int32) * (-10 : Int32))))))) 10000000 (by decide), ng_gt hn ((10 : Int32) * ((10 : Int32) * ((10 : Int32) * ((10 : Int32) * ((10 : Int32) * ((10 : Int32) * ((10 : Int32) * (-10 : Int32)))))))) 100000000 (by decide), ng_gt hn ((10 : Int32) * ((10 : Int32) * ((10 : Int32) * ((10 : Int32) * ((10 : Int32) * ((10 : Int32) * ((10 : Int32) * ((10 : Int32) * (-10 : Int32))))))))) 1000000000 (by decide)]
  repeat' split
  all_goals rfl
theorem size_eq (v : Int32) : fSize v = Int32.ofNat (decI v).length := by
  have e0 : fSize v = if v < 0 then sizeT v 1 else sizeT (-v) 0 := rfl
  have h3 := natAbs_le v
  have key := ng_abs v
  have hl : (decI v).length = (sgn v).length + dg v.toInt.natAbs := by unfold decI; rw [List.length_append, low_length]
  rw [e0, hl]
  generalize v.toInt.natAbs = N at key h3
  unfold sgn
  by_cases hv : v < 0
  · rw [if_pos hv] at key ⊢
    rw [if_pos hv, key, sizeT_eq h3, Nat.add_comm]
    exact (Int32.ofNat_add (dg N) 1).symm
  · rw [if_neg hv] at key ⊢
    rw [if_neg hv, key, sizeT_eq h3, Int32.add_zero]
    show Int32.ofNat (dg N) = Int32.ofNat (0 + dg N)
    rw [Nat.zero_add]

def onesL : List Int32 := (List.range 100).map fun r => Int32.ofNat (48 + r % 10)
def tensL : List Int32 := (List.range 100).map fun r => Int32.ofNat (48 + r / 10)
theorem ones_get {r : Nat} (h : r < 100) : onesL.getD r 0 = ch (r % 10) := by unfold onesL ch; rw [List.getD_eq_getElem?_getD, List.getElem?_map, List.getElem?_range h]; rfl
theorem tens_get {r : Nat} (h : r < 100) : tensL.getD r 0 = ch (r / 10) := by unfold tensL ch; rw [List.getD_eq_getElem?_getD, List.getElem?_map, List.getElem?_range h]; rfl
theorem tab_in {r : Nat} {i : Int32} (hi : Int32.ofNat r = i) (h : r < 100) : ¬ i < 0 ∧ i < Int32.ofNat 100 := hi ▸ i_in r 100 h (by omega)
theorem nar_ch_fin : ∀ d : Fin 10, nar .byte (ch d.val) = ch d.val := by decide +kernel
theorem nar_ch {d : Nat} (h : d < 10) : nar .byte (ch d) = ch d := nar_ch_fin ⟨d, h⟩
theorem tab_ones {r : Nat} {i : Int32} (hi : Int32.ofNat r = i) (h : r < 100) : (onesL.map Value.int).getD i.toNatClampNeg (.int 0) = .int (ch (r % 10)) := by rw [own_get hi (by omega), ones_get h]
theorem tab_tens {r : Nat} {i : Int32} (hi : Int32.ofNat r = i) (h : r < 100) : (tensL.map Value.int).getD i.toNatClampNeg (.int 0) = .int (ch (r / 10)) := by rw [own_get hi (by omega), tens_get h]
theorem wl_set' {l : List Int32} {a b : Nat} {suf : List Int32} {x y : Int32} (hb : b = a + 1) (hx : x = y) : (wl l b suf).set (l.length + a) (.int x) = wl l a (y :: suf) := by subst hb hx; exact wl_set l a suf x
theorem pos_in {l : List Int32} {a c : Nat} (h : l.length + a < c) (hc : c ≤ 90) : ¬ Int32.ofNat (l.length + a) < 0 ∧ Int32.ofNat (l.length + a) < Int32.ofNat c := i_in _ _ h (by omega)
theorem pos_nat {l : List Int32} {a c : Nat} (h : l.length + a < c) (hc : c ≤ 90) : (Int32.ofNat (l.length + a)).toNatClampNeg = l.length + a := i_toNat _ (by omega)
theorem pos_dec {l : List Int32} {a b : Nat} (hb : b = a + 1) : Int32.ofNat (l.length + b) + Int32.ofInt (-1) = Int32.ofNat (l.length + a) := by subst hb; rw [← Nat.add_assoc]; exact i_dec _
theorem wl_lt {l : List Int32} {a b : Nat} {suf : List Int32} (hb : b = a + 1) : l.length + a < (wl l b suf).length := by rw [wl_length]; omega
theorem n31 {N j n : Nat} (hN : N ≤ 2 ^ 31) (hn : N / 10 ^ j = n) : n ≤ 2 ^ 31 := hn ▸ Nat.le_trans (Nat.div_le_self _ _) hN
theorem m100 : (-100 : Int32).toInt = -((100 : Nat) : Int) := by decide
theorem m9 : (-9 : Int32).toInt = -((9 : Nat) : Int) := by decide
theorem gc_two {N j n : Nat} (hN : N ≤ 2 ^ 31) (hn : N / 10 ^ j = n) (h : ¬ n < 100) : j + 2 < dg N := dg_le N (j + 2) hN (by rw [← div_two, hn]; omega)
theorem gc_one {N j n : Nat} (hN : N ≤ 2 ^ 31) (hn : N / 10 ^ j = n) (hj : j = 0 ∨ 1 ≤ n) : j < dg N := by
  rcases hj with rfl | h
  · exact (dg_pos N).1
  · exact dg_le N j hN (hn ▸ h)
theorem gc_end1 {N j n : Nat} (hN : N ≤ 2 ^ 31) (hn : N / 10 ^ j = n) (hj : j = 0 ∨ 1 ≤ n) (h : n < 10) : dg N = j + 1 := dg_eq N j hN (hn ▸ h) (hn ▸ hj)
theorem gc_end2 {N j n : Nat} (hN : N ≤ 2 ^ 31) (hn : N / 10 ^ j = n) (h : n < 100) (h9 : ¬ n < 10) : dg N = j + 2 := dg_eq N (j + 1) hN (by rw [Nat.pow_succ, ← Nat.div_div_eq_div_mul, hn]; omega) (Or.inr (by rw [Nat.pow_succ, ← Nat.div_div_eq_div_mul, hn]; omega))
theorem gc_low1 {N j n : Nat} (hn : N / 10 ^ j = n) : ch (n % 10) :: low N j = low N (j + 1) := by subst hn; rfl
theorem gc_low2 {N j n : Nat} (hn : N / 10 ^ j = n) (h : n < 100) : ch (n / 10) :: ch (n % 10) :: low N j = low N (j + 2) := by
  rw [← low_two, hn, Nat.mod_eq_of_lt h]
theorem gc_low3 {N j n : Nat} (hn : N / 10 ^ j = n) : ch (n % 100 / 10) :: ch (n % 100 % 10) :: low N j = low N (j + 2) := by rw [← low_two, hn]
theorem gc_gt {n : Nat} (hn : n ≤ 2 ^ 31) : (-100 : Int32) < ng n ↔ n < 100 := ng_gt hn _ 100 m100
theorem gc_ge9 {n : Nat} (hn : n ≤ 2 ^ 31) : ng n < (-9 : Int32) ↔ ¬ n < 10 := by rw [Int32.lt_iff_toInt_lt, ng_toInt hn, m9]; omega
theorem gc_fin {l suf : List Int32} {a : Nat} {x : Int32} (ha : a = 0) (hs : suf = decI x) : wl l a suf = (l ++ decI x).map Value.int := by subst ha hs; exact wl_zero _ _
theorem gc_szp {x : Int32} {N : Nat} (hN : x.toInt.natAbs = N) (h : ¬ x < 0) : (decI x).length = dg N + 0 ∧ decI x = low N (dg N) := by subst hN; unfold decI sgn; rw [if_neg h]; exact ⟨by rw [List.nil_append, low_length]; rfl, rfl⟩
theorem gc_szn {x : Int32} {N : Nat} (hN : x.toInt.natAbs = N) (h : x < 0) : (decI x).length = dg N + 1 ∧ decI x = 45 :: low N (dg N) := by subst hN; unfold decI sgn; rw [if_pos h]; exact ⟨by rw [List.length_append, low_length]; exact Nat.add_comm _ _, rfl⟩
theorem gc_in {x : Int32} {N : Nat} (hN : x.toInt.natAbs = N) (h : x < 0) : x = ng N := by have := ng_abs x; rw [if_pos h, hN] at this; exact this
theorem gc_ip {x : Int32} {N : Nat} (hN : x.toInt.natAbs = N) (h : ¬ x < 0) : -x = ng N := by have := ng_abs x; rw [if_neg h, hN] at this; exact this
theorem nar45 : nar .byte (45 : Int32) = 45 := by decide +kernel

theorem ef_22iir (m : MethodId) (a1 : Int32) (a2 : Int32) (a3 : Addr) : entryFrame m #[(.int a1), (.int a2), (.ref a3)] 7 = mkF m 0 #[iv a1, iv a2, rv a3, uu, uu, uu, uu] [] := by first | (simp [entryFrame, mkF, argsToLocals, Value.category, iv, rv, jv, nv, uu, sd]; done) | rfl
theorem d22_0 : decode jdk_33_method_12_code 0 = .ok (.iload_n 1, 1) := by decide +kernel
theorem d22_1 : decode jdk_33_method_12_code 1 = .ok (.istore 5, 2) := by decide +kernel
theorem d22_3 : decode jdk_33_method_12_code 3 = .ok (.iload_n 0, 1) := by decide +kernel
theorem d22_4 : decode jdk_33_method_12_code 4 = .ok (.ifCond .ge 7, 3) := by decide +kernel
theorem d22_11 : decode jdk_33_method_12_code 11 = .ok (.iconst 0, 1) := by decide +kernel
theorem d22_12 : decode jdk_33_method_12_code 12 = .ok (.istore 6, 2) := by decide +kernel
theorem d22_14 : decode jdk_33_method_12_code 14 = .ok (.iload 6, 2) := by decide +kernel
theorem d22_16 : decode jdk_33_method_12_code 16 = .ok (.ifCond .ne 6, 3) := by decide +kernel
theorem d22_19 : decode jdk_33_method_12_code 19 = .ok (.iload_n 0, 1) := by decide +kernel
theorem d22_20 : decode jdk_33_method_12_code 20 = .ok (.ineg, 1) := by decide +kernel
theorem d22_21 : decode jdk_33_method_12_code 21 = .ok (.istore_n 0, 1) := by decide +kernel
theorem d22_22 : decode jdk_33_method_12_code 22 = .ok (.iload_n 0, 1) := by decide +kernel
theorem d22_23 : decode jdk_33_method_12_code 23 = .ok (.bipush (-100), 2) := by decide +kernel
theorem d22_25 : decode jdk_33_method_12_code 25 = .ok (.if_icmp .gt 47, 3) := by decide +kernel
theorem d22_72 : decode jdk_33_method_12_code 72 = .ok (.aload_n 2, 1) := by decide +kernel
theorem d22_73 : decode jdk_33_method_12_code 73 = .ok (.iinc 5 (-1), 3) := by decide +kernel
theorem d22_76 : decode jdk_33_method_12_code 76 = .ok (.iload 5, 2) := by decide +kernel
theorem d22_78 : decode jdk_33_method_12_code 78 = .ok (.getstatic 83, 3) := by decide +kernel
theorem w_126 {Z : State} {a0 : Array Value} (hw : ∀ d ∈ tables_1, d.before a0 Z = true) : Jvm.Cond.before (Jvm.Cond.fieldLink "java/lang/Integer" (83 : Nat) "java/lang/Integer" "DigitOnes" "[B") a0 Z = true := hw _ (List.mem_of_getElem? (i := 126) rfl)
theorem d22_81 : decode jdk_33_method_12_code 81 = .ok (.iload_n 0, 1) := by decide +kernel
theorem d22_82 : decode jdk_33_method_12_code 82 = .ok (.ineg, 1) := by decide +kernel
theorem d22_83 : decode jdk_33_method_12_code 83 = .ok (.baload, 1) := by decide +kernel
theorem d22_84 : decode jdk_33_method_12_code 84 = .ok (.bastore, 1) := by decide +kernel
theorem d22_85 : decode jdk_33_method_12_code 85 = .ok (.iload_n 0, 1) := by decide +kernel
theorem d22_86 : decode jdk_33_method_12_code 86 = .ok (.bipush (-9), 2) := by decide +kernel
theorem d22_88 : decode jdk_33_method_12_code 88 = .ok (.if_icmp .ge 16, 3) := by decide +kernel
theorem d22_104 : decode jdk_33_method_12_code 104 = .ok (.iload 6, 2) := by decide +kernel
theorem d22_106 : decode jdk_33_method_12_code 106 = .ok (.ifCond .eq 12, 3) := by decide +kernel
theorem d22_118 : decode jdk_33_method_12_code 118 = .ok (.iload 5, 2) := by decide +kernel
theorem d22_120 : decode jdk_33_method_12_code 120 = .ok (.ireturn, 1) := by decide +kernel
theorem d22_91 : decode jdk_33_method_12_code 91 = .ok (.aload_n 2, 1) := by decide +kernel
theorem d22_92 : decode jdk_33_method_12_code 92 = .ok (.iinc 5 (-1), 3) := by decide +kernel
theorem d22_95 : decode jdk_33_method_12_code 95 = .ok (.iload 5, 2) := by decide +kernel
theorem d22_97 : decode jdk_33_method_12_code 97 = .ok (.getstatic 87, 3) := by decide +kernel
theorem w_127 {Z : State} {a0 : Array Value} (hw : ∀ d ∈ tables_1, d.before a0 Z = true) : Jvm.Cond.before (Jvm.Cond.fieldLink "java/lang/Integer" (87 : Nat) "java/lang/Integer" "DigitTens" "[B") a0 Z = true := hw _ (List.mem_of_getElem? (i := 127) rfl)
theorem d22_100 : decode jdk_33_method_12_code 100 = .ok (.iload_n 0, 1) := by decide +kernel
theorem d22_101 : decode jdk_33_method_12_code 101 = .ok (.ineg, 1) := by decide +kernel
theorem d22_102 : decode jdk_33_method_12_code 102 = .ok (.baload, 1) := by decide +kernel
theorem d22_103 : decode jdk_33_method_12_code 103 = .ok (.bastore, 1) := by decide +kernel
theorem d22_28 : decode jdk_33_method_12_code 28 = .ok (.iload_n 0, 1) := by decide +kernel
theorem d22_29 : decode jdk_33_method_12_code 29 = .ok (.bipush 100, 2) := by decide +kernel
theorem d22_31 : decode jdk_33_method_12_code 31 = .ok (.idiv, 1) := by decide +kernel
theorem d22_32 : decode jdk_33_method_12_code 32 = .ok (.istore_n 3, 1) := by decide +kernel
theorem d22_33 : decode jdk_33_method_12_code 33 = .ok (.iload_n 3, 1) := by decide +kernel
theorem d22_34 : decode jdk_33_method_12_code 34 = .ok (.bipush 100, 2) := by decide +kernel
theorem d22_36 : decode jdk_33_method_12_code 36 = .ok (.imul, 1) := by decide +kernel
theorem d22_37 : decode jdk_33_method_12_code 37 = .ok (.iload_n 0, 1) := by decide +kernel
theorem d22_38 : decode jdk_33_method_12_code 38 = .ok (.isub, 1) := by decide +kernel
theorem d22_39 : decode jdk_33_method_12_code 39 = .ok (.istore 4, 2) := by decide +kernel
theorem d22_41 : decode jdk_33_method_12_code 41 = .ok (.iload_n 3, 1) := by decide +kernel
theorem d22_42 : decode jdk_33_method_12_code 42 = .ok (.istore_n 0, 1) := by decide +kernel
theorem d22_43 : decode jdk_33_method_12_code 43 = .ok (.aload_n 2, 1) := by decide +kernel
theorem d22_44 : decode jdk_33_method_12_code 44 = .ok (.iinc 5 (-1), 3) := by decide +kernel
theorem d22_47 : decode jdk_33_method_12_code 47 = .ok (.iload 5, 2) := by decide +kernel
theorem d22_49 : decode jdk_33_method_12_code 49 = .ok (.getstatic 83, 3) := by decide +kernel
theorem d22_52 : decode jdk_33_method_12_code 52 = .ok (.iload 4, 2) := by decide +kernel
theorem d22_54 : decode jdk_33_method_12_code 54 = .ok (.baload, 1) := by decide +kernel
theorem d22_55 : decode jdk_33_method_12_code 55 = .ok (.bastore, 1) := by decide +kernel
theorem d22_56 : decode jdk_33_method_12_code 56 = .ok (.aload_n 2, 1) := by decide +kernel
theorem d22_57 : decode jdk_33_method_12_code 57 = .ok (.iinc 5 (-1), 3) := by decide +kernel
theorem d22_60 : decode jdk_33_method_12_code 60 = .ok (.iload 5, 2) := by decide +kernel
theorem d22_62 : decode jdk_33_method_12_code 62 = .ok (.getstatic 87, 3) := by decide +kernel
theorem d22_65 : decode jdk_33_method_12_code 65 = .ok (.iload 4, 2) := by decide +kernel
theorem d22_67 : decode jdk_33_method_12_code 67 = .ok (.baload, 1) := by decide +kernel
theorem d22_68 : decode jdk_33_method_12_code 68 = .ok (.bastore, 1) := by decide +kernel
theorem d22_69 : decode jdk_33_method_12_code 69 = .ok (.goto (-47), 3) := by decide +kernel
theorem d22_7 : decode jdk_33_method_12_code 7 = .ok (.iconst 1, 1) := by decide +kernel
theorem d22_8 : decode jdk_33_method_12_code 8 = .ok (.goto 4, 3) := by decide +kernel
theorem d22_109 : decode jdk_33_method_12_code 109 = .ok (.aload_n 2, 1) := by decide +kernel
theorem d22_110 : decode jdk_33_method_12_code 110 = .ok (.iinc 5 (-1), 3) := by decide +kernel
theorem d22_113 : decode jdk_33_method_12_code 113 = .ok (.iload 5, 2) := by decide +kernel
theorem d22_115 : decode jdk_33_method_12_code 115 = .ok (.bipush 45, 2) := by decide +kernel
theorem d22_117 : decode jdk_33_method_12_code 117 = .ok (.bastore, 1) := by decide +kernel
def Q22 (Z : State) (x1 : Int32) (i1 : Int32) (o2 : Addr) (kd1 : ClassId) (c1 : Nat) (l1 : List Int32) (nn1 : Nat) (o7 : Addr) (o8 : Addr) (kd7 : ClassId) (kd8 : ClassId) (h0 : Heap) (n0 : Nat) (v : Option Value) (h : Heap) (L : List Loc) : Prop := v = some (.int (Int32.ofNat l1.length)) ∧ Fr n0 L ∧ Keep h0 h [o2] ∧ Arv Z h o2 kd1 .byte (Int32.ofNat c1) ((l1 ++ decI x1).map Value.int) (.int 0)
abbrev y22 : MethodName := (⟨"java/lang/Integer", "getChars", "(II[B)I"⟩ : MethodName)
theorem rm22 {x1 i1 : Int32} {o2 o7 o8 : Addr} {kd1 kd7 kd8 : ClassId} {c1 nn1 : Nat} {l1 : List Int32} (hw : OwnW a0 Z) (Z0 : n0 ≤ h0.size) (F0 : Arv Z h0 o2 kd1 .byte (Int32.ofNat c1) (l1.map Value.int) (.int 0)) (F1 : Sta Z h0 "java/lang/Integer" "DigitOnes" "[B" (.ref o7)) (F2 : Sta Z h0 "java/lang/Integer" "DigitTens" "[B" (.ref o8)) (F3 : Arv Z h0 o7 kd7 .byte (Int32.ofNat 100) (onesL.map Value.int) (.int 0)) (F4 : Arv Z h0 o8 kd8 .byte (Int32.ofNat 100) (tensL.map Value.int) (.int 0)) (gn_o2 : n0 ≤ o2) (hN : x1.toInt.natAbs = nn1) (hi : Int32.ofNat (l1.length + (decI x1).length) = i1) (hf : l1.length + (decI x1).length ≤ c1) (hc : c1 ≤ 90) (ne_o2_o7 : o2 ≠ o7) (ne_o2_o8 : o2 ≠ o8) : OwnMF l Z y22 jdk_33_method_12_code 7 (some .int) ws ⟨0, 0, 0, 0⟩ #[(.int x1), (.int i1), (.ref o2)] h0 (Q22 Z x1 i1 o2 kd1 c1 l1 nn1 o7 o8 kd7 kd8 h0 n0) := by
  refine bo (plainFor_of_name pn_20) ?_
  intro p e s m below meth c T0 G C hnm hnamed X0 e0 K
  have N0 := Fr.nil n0
  refine Goes.to (congrArg T0.setTop (ef_22iir m x1 i1 o2)) ?_
  have K00 := Keep.refl h0 [o2]
  refine g_iloadN C X0 d22_0 1 rfl ?_
  refine g_istore C X0 d22_1 3 (w := i1) rfl (ls' := #[iv x1, iv i1, rv o2, uu, uu, iv i1, uu]) rfl ?_
  refine g_iloadN C X0 d22_3 4 rfl ?_
  refine g_if_ge C X0 d22_4 11 7 (fun hc4 => ?_) (fun hc4 => ?_)
  · refine g_iconst C X0 d22_11 12 (v := 0) rfl ?_
    refine g_istore C X0 d22_12 14 (w := 0) rfl (ls' := #[iv x1, iv i1, rv o2, uu, uu, iv i1, iv 0]) rfl ?_
    refine g_iload C X0 d22_14 16 rfl ?_
    refine g_if_ne C X0 d22_16 22 19 (fun hc16 => absurd hc16 (by decide)) (fun hc16 => ?_)
    refine g_iloadN C X0 d22_19 20 rfl ?_
    refine g_ineg C X0 d22_20 21 ?_
    refine g_istoreN C X0 d22_21 22 (w := (-x1)) rfl (ls' := #[iv (-x1), iv i1, rv o2, uu, uu, iv i1, iv 0]) rfl ?_
    obtain ⟨hsz, hdec⟩ := gc_szp hN hc4
    have hN31 : nn1 ≤ 2 ^ 31 := hN ▸ natAbs_le x1
    have loop : ∀ (n j a : Nat) (q3 q4 : Slot) (T : State) (L : List Loc) (h : Heap), nn1 / 10 ^ j = n → (j = 0 ∨ 1 ≤ n) → a + j = dg nn1 + 0 → (q3 = uu ∨ ∃ z, q3 = iv z) → (q4 = uu ∨ ∃ z, q4 = iv z) → Stand p l e (⟨0, 0, 0, 0⟩ : Room) s m #[.int x1, .int i1, .ref o2] below meth c T L 0 0 → T.heap = h → Fr n0 L → Keep h0 h [o2] → n0 ≤ h.size → Sta Z h "java/lang/Integer" "DigitOnes" "[B" (.ref o7) → Sta Z h "java/lang/Integer" "DigitTens" "[B" (.ref o8) → Arv Z h o7 kd7 .byte (Int32.ofNat 100) (onesL.map Value.int) (.int 0) → Arv Z h o8 kd8 .byte (Int32.ofNat 100) (tensL.map Value.int) (.int 0) → Arv Z h o2 kd1 .byte (Int32.ofNat c1) (wl l1 a (low nn1 j)) (.int 0) → Goes p.tables e below G (T.setTop (mkF m 22 #[iv (ng n), iv i1, rv o2, q3, q4, iv (Int32.ofNat (l1.length + a)), iv 0] [])) := by
      intro n
      induction n using Nat.strongRecOn with
      | _ n ih =>
        intro j a q3 q4 T L h hn hj ha hq3 hq4 XL eL NL KL ZL S7 S8 V7 V8 V2
        have h31 := n31 hN31 hn
        refine g_iloadN C XL d22_22 23 rfl ?_
        refine g_bipush C XL d22_23 25 (v := -100) rfl ?_
        refine g_icmp_gt C XL d22_25 72 28 (fun hc25 => ?_) (fun hc25 => ?_)
        · have hlt : n < 100 := (gc_gt h31).mp hc25
          have hd := gc_one hN31 hn hj
          refine g_aloadN C XL d22_72 73 rfl rfl ?_
          refine g_iinc C XL d22_73 76 rfl (w := (Int32.ofNat (l1.length + (a - 1)))) (pos_dec (by omega)) (ls' := #[iv (ng n), iv i1, rv o2, q3, q4, iv (Int32.ofNat (l1.length + (a - 1))), iv 0]) rfl ?_
          refine g_iload C XL d22_76 78 rfl ?_
          refine g_getS C XL (w_126 hw) Via.refl eL S7 d22_78 81 (fun T1 X1 e1 => ?_)
          refine g_iloadN C X1 d22_81 82 rfl ?_
          refine g_ineg C X1 d22_82 83 ?_
          refine g_baload C X1 e1 V7 (tab_in (ng_neg (Nat.lt_of_le_of_lt (Nat.le_of_lt hlt) (by decide))).symm hlt) (v := (.int (ch (n % 10)))) (tab_ones (ng_neg (Nat.lt_of_le_of_lt (Nat.le_of_lt hlt) (by decide))).symm hlt) d22_83 84 ?_
          refine g_bastore C X1 (i := (l1.length + (a - 1))) e1 V2 (pos_in (by omega) hc) (pos_nat (by omega) hc) (wl_lt (by omega)) d22_84 85 (fun T2 h2 X2 e2 W2 A2 => ?_)
          have f4 := S8.wr W2
          have f6 := V8.other W2 (Ne.symm ne_o2_o8)
          have f7 : Arv Z h2 o2 kd1 .byte (Int32.ofNat c1) (wl l1 (a - 1) (ch (n % 10) :: (low nn1 j))) (.int 0) := (wl_set' (l := l1) (a := (a - 1)) (b := a) (suf := (low nn1 j)) (by omega) (nar_ch (Nat.mod_lt _ (by decide)))) ▸ A2
          have N2 := Fr.snoc X2 NL gn_o2
          have K2 := KL.wr W2 (Or.inl (List.mem_of_getElem? (i := 0) rfl))
          refine g_iloadN C X2 d22_85 86 rfl ?_
          refine g_bipush C X2 d22_86 88 (v := -9) rfl ?_
          refine g_icmp_ge C X2 d22_88 104 91 (fun hc88 => ?_) (fun hc88 => ?_)
          · refine g_iload C X2 d22_104 106 rfl ?_
            refine g_if_eq C X2 d22_106 118 109 (fun hc106 => ?_) (fun hc106 => absurd hc106 (by decide))
            have he := gc_end1 hN31 hn hj (Classical.byContradiction fun q => hc88 ((gc_ge9 h31).mpr q))
            have hz : (a - 1) = 0 := by omega
            have f8 : Arv Z h2 o2 kd1 .byte (Int32.ofNat c1) ((l1 ++ decI x1).map Value.int) (.int 0) := by rw [← gc_fin hz (by rw [hdec, he, ← gc_low1 hn])]; exact f7
            refine g_iload C X2 d22_118 120 rfl ?_
            exact g_retI C X2 K d22_120 (by decide) (by decide) e2 ⟨(by rw [hz, Nat.add_zero]), N2, K2, f8⟩
          · have h9 := (gc_ge9 h31).mp hc88
            have he := gc_end2 hN31 hn hlt h9
            refine g_aloadN C X2 d22_91 92 rfl rfl ?_
            refine g_iinc C X2 d22_92 95 rfl (w := (Int32.ofNat (l1.length + ((a - 1) - 1)))) (pos_dec (by omega)) (ls' := #[iv (ng n), iv i1, rv o2, q3, q4, iv (Int32.ofNat (l1.length + ((a - 1) - 1))), iv 0]) rfl ?_
            refine g_iload C X2 d22_95 97 rfl ?_
            refine g_getS C X2 (w_127 hw) Via.refl e2 f4 d22_97 100 (fun T9 X9 e9 => ?_)
            refine g_iloadN C X9 d22_100 101 rfl ?_
            refine g_ineg C X9 d22_101 102 ?_
            refine g_baload C X9 e9 f6 (tab_in (ng_neg (Nat.lt_of_le_of_lt (Nat.le_of_lt hlt) (by decide))).symm hlt) (v := (.int (ch (n / 10)))) (tab_tens (ng_neg (Nat.lt_of_le_of_lt (Nat.le_of_lt hlt) (by decide))).symm hlt) d22_102 103 ?_
            refine g_bastore C X9 (i := (l1.length + ((a - 1) - 1))) e9 f7 (pos_in (by omega) hc) (pos_nat (by omega) hc) (wl_lt (by omega)) d22_103 104 (fun T10 h10 X10 e10 W10 A10 => ?_)
            have f15 : Arv Z h10 o2 kd1 .byte (Int32.ofNat c1) (wl l1 ((a - 1) - 1) (ch (n / 10) :: (ch (n % 10) :: (low nn1 j)))) (.int 0) := (wl_set' (l := l1) (a := ((a - 1) - 1)) (b := (a - 1)) (suf := (ch (n % 10) :: (low nn1 j))) (by omega) (nar_ch (d := n / 10) (by omega))) ▸ A10
            have N10 := Fr.snoc X10 N2 gn_o2
            have K10 := K2.wr W10 (Or.inl (List.mem_of_getElem? (i := 0) rfl))
            refine g_iload C X10 d22_104 106 rfl ?_
            refine g_if_eq C X10 d22_106 118 109 (fun hc106 => ?_) (fun hc106 => absurd hc106 (by decide))
            have hz : ((a - 1) - 1) = 0 := by omega
            have f16 : Arv Z h10 o2 kd1 .byte (Int32.ofNat c1) ((l1 ++ decI x1).map Value.int) (.int 0) := by rw [← gc_fin hz (by rw [hdec, he, ← gc_low2 hn hlt])]; exact f15
            refine g_iload C X10 d22_118 120 rfl ?_
            exact g_retI C X10 K d22_120 (by decide) (by decide) e10 ⟨(by rw [hz, Nat.add_zero]), N10, K10, f16⟩
        · have hge : ¬ n < 100 := fun q => hc25 ((gc_gt h31).mpr q)
          have hd := gc_two hN31 hn hge
          refine g_iloadN C XL d22_28 29 rfl ?_
          refine g_bipush C XL d22_29 31 (v := 100) rfl ?_
          refine g_idiv C XL d22_31 32 (by decide) ?_
          refine g_istoreN C XL d22_32 33 (w := ((ng n) / (100 : Int32))) rfl (ls' := #[iv (ng n), iv i1, rv o2, iv ((ng n) / (100 : Int32)), q4, iv (Int32.ofNat (l1.length + a)), iv 0]) (by rcases hq3 with rfl | ⟨z, rfl⟩ <;> rcases hq4 with rfl | ⟨z, rfl⟩ <;> rfl) ?_
          refine g_iloadN C XL d22_33 34 rfl ?_
          refine g_bipush C XL d22_34 36 (v := 100) rfl ?_
          refine g_imul C XL d22_36 37 ?_
          refine g_iloadN C XL d22_37 38 rfl ?_
          refine g_isub C XL d22_38 39 ?_
          refine g_istore C XL d22_39 41 (w := ((((ng n) / (100 : Int32)) * (100 : Int32)) - (ng n))) rfl (ls' := #[iv (ng n), iv i1, rv o2, iv ((ng n) / (100 : Int32)), iv ((((ng n) / (100 : Int32)) * (100 : Int32)) - (ng n)), iv (Int32.ofNat (l1.length + a)), iv 0]) (by rcases hq4 with rfl | ⟨z, rfl⟩ <;> rfl) ?_
          refine g_iloadN C XL d22_41 42 rfl ?_
          refine g_istoreN C XL d22_42 43 (w := ((ng n) / (100 : Int32))) rfl (ls' := #[iv ((ng n) / (100 : Int32)), iv i1, rv o2, iv ((ng n) / (100 : Int32)), iv ((((ng n) / (100 : Int32)) * (100 : Int32)) - (ng n)), iv (Int32.ofNat (l1.length + a)), iv 0]) rfl ?_
          refine g_aloadN C XL d22_43 44 rfl rfl ?_
          refine g_iinc C XL d22_44 47 rfl (w := (Int32.ofNat (l1.length + (a - 1)))) (pos_dec (by omega)) (ls' := #[iv ((ng n) / (100 : Int32)), iv i1, rv o2, iv ((ng n) / (100 : Int32)), iv ((((ng n) / (100 : Int32)) * (100 : Int32)) - (ng n)), iv (Int32.ofNat (l1.length + (a - 1))), iv 0]) rfl ?_
          refine g_iload C XL d22_47 49 rfl ?_
          refine g_getS C XL (w_126 hw) Via.refl eL S7 d22_49 52 (fun T17 X17 e17 => ?_)
          refine g_iload C X17 d22_52 54 rfl ?_
          refine g_baload C X17 e17 V7 (tab_in (show Int32.ofNat (n % 100) = _ from by rw [ng_div h31]; exact (ng_rem h31).symm) (Nat.mod_lt n (by decide))) (v := (.int (ch (n % 100 % 10)))) (tab_ones (show Int32.ofNat (n % 100) = _ from by rw [ng_div h31]; exact (ng_rem h31).symm) (Nat.mod_lt n (by decide))) d22_54 55 ?_
          refine g_bastore C X17 (i := (l1.length + (a - 1))) e17 V2 (pos_in (by omega) hc) (pos_nat (by omega) hc) (wl_lt (by omega)) d22_55 56 (fun T18 h18 X18 e18 W18 A18 => ?_)
          have f19 := S7.wr W18
          have f20 := S8.wr W18
          have f21 := V7.other W18 (Ne.symm ne_o2_o7)
          have f22 := V8.other W18 (Ne.symm ne_o2_o8)
          have f23 : Arv Z h18 o2 kd1 .byte (Int32.ofNat c1) (wl l1 (a - 1) (ch (n % 100 % 10) :: (low nn1 j))) (.int 0) := (wl_set' (l := l1) (a := (a - 1)) (b := a) (suf := (low nn1 j)) (by omega) (nar_ch (Nat.mod_lt _ (by decide)))) ▸ A18
          have N18 := Fr.snoc X18 NL gn_o2
          have Z18 := Nat.le_trans ZL (Nat.le_of_eq W18.size.symm)
          have K18 := KL.wr W18 (Or.inl (List.mem_of_getElem? (i := 0) rfl))
          refine g_aloadN C X18 d22_56 57 rfl rfl ?_
          refine g_iinc C X18 d22_57 60 rfl (w := (Int32.ofNat (l1.length + ((a - 1) - 1)))) (pos_dec (by omega)) (ls' := #[iv ((ng n) / (100 : Int32)), iv i1, rv o2, iv ((ng n) / (100 : Int32)), iv ((((ng n) / (100 : Int32)) * (100 : Int32)) - (ng n)), iv (Int32.ofNat (l1.length + ((a - 1) - 1))), iv 0]) rfl ?_
          refine g_iload C X18 d22_60 62 rfl ?_
          refine g_getS C X18 (w_127 hw) Via.refl e18 f20 d22_62 65 (fun T24 X24 e24 => ?_)
          refine g_iload C X24 d22_65 67 rfl ?_
          refine g_baload C X24 e24 f22 (tab_in (show Int32.ofNat (n % 100) = _ from by rw [ng_div h31]; exact (ng_rem h31).symm) (Nat.mod_lt n (by decide))) (v := (.int (ch (n % 100 / 10)))) (tab_tens (show Int32.ofNat (n % 100) = _ from by rw [ng_div h31]; exact (ng_rem h31).symm) (Nat.mod_lt n (by decide))) d22_67 68 ?_
          refine g_bastore C X24 (i := (l1.length + ((a - 1) - 1))) e24 f23 (pos_in (by omega) hc) (pos_nat (by omega) hc) (wl_lt (by omega)) d22_68 69 (fun T25 h25 X25 e25 W25 A25 => ?_)
          have f26 := f19.wr W25
          have f27 := f20.wr W25
          have f28 := f21.other W25 (Ne.symm ne_o2_o7)
          have f29 := f22.other W25 (Ne.symm ne_o2_o8)
          have f30 : Arv Z h25 o2 kd1 .byte (Int32.ofNat c1) (wl l1 ((a - 1) - 1) (ch (n % 100 / 10) :: (ch (n % 100 % 10) :: (low nn1 j)))) (.int 0) := (wl_set' (l := l1) (a := ((a - 1) - 1)) (b := (a - 1)) (suf := (ch (n % 100 % 10) :: (low nn1 j))) (by omega) (nar_ch (d := n % 100 / 10) (by omega))) ▸ A25
          have N25 := Fr.snoc X25 N18 gn_o2
          have Z25 := Nat.le_trans Z18 (Nat.le_of_eq W25.size.symm)
          have K25 := K18.wr W25 (Or.inl (List.mem_of_getElem? (i := 0) rfl))
          refine g_goto C X25 d22_69 22 ?_
          rw [ng_div h31]
          have fL : Arv Z h25 o2 kd1 .byte (Int32.ofNat c1) (wl l1 ((a - 1) - 1) (low nn1 (j + 2))) (.int 0) := by rw [← gc_low3 hn]; exact f30
          exact ih (n / 100) (by omega) (j + 2) ((a - 1) - 1) _ _ _ _ _ (by rw [← div_two, hn]) (Or.inr (by omega)) (by omega) (Or.inr ⟨_, rfl⟩) (Or.inr ⟨_, rfl⟩) X25 e25 N25 K25 Z25 f26 f27 f28 f29 fL
    have fP : Arv Z h0 o2 kd1 .byte (Int32.ofNat c1) (wl l1 (decI x1).length (low nn1 0)) (.int 0) := by rw [show low nn1 0 = [] from rfl, wl_pad]; exact F0.pad (pad_rep _ _ _)
    rw [gc_ip hN hc4]
    have := loop nn1 0 (decI x1).length uu uu _ _ _ (by simp) (Or.inl rfl) (by omega) (Or.inl rfl) (Or.inl rfl) X0 e0 N0 K00 Z0 F1 F2 F3 F4 fP
    rw [hi] at this
    exact this
  · refine g_iconst C X0 d22_7 8 (v := 1) rfl ?_
    refine g_goto C X0 d22_8 12 ?_
    refine g_istore C X0 d22_12 14 (w := 1) rfl (ls' := #[iv x1, iv i1, rv o2, uu, uu, iv i1, iv 1]) rfl ?_
    refine g_iload C X0 d22_14 16 rfl ?_
    refine g_if_ne C X0 d22_16 22 19 (fun hc16 => ?_) (fun hc16 => absurd hc16 (by decide))
    obtain ⟨hsz, hdec⟩ := gc_szn hN hc4
    have hN31 : nn1 ≤ 2 ^ 31 := hN ▸ natAbs_le x1
    have loop : ∀ (n j a : Nat) (q3 q4 : Slot) (T : State) (L : List Loc) (h : Heap), nn1 / 10 ^ j = n → (j = 0 ∨ 1 ≤ n) → a + j = dg nn1 + 1 → (q3 = uu ∨ ∃ z, q3 = iv z) → (q4 = uu ∨ ∃ z, q4 = iv z) → Stand p l e (⟨0, 0, 0, 0⟩ : Room) s m #[.int x1, .int i1, .ref o2] below meth c T L 0 0 → T.heap = h → Fr n0 L → Keep h0 h [o2] → n0 ≤ h.size → Sta Z h "java/lang/Integer" "DigitOnes" "[B" (.ref o7) → Sta Z h "java/lang/Integer" "DigitTens" "[B" (.ref o8) → Arv Z h o7 kd7 .byte (Int32.ofNat 100) (onesL.map Value.int) (.int 0) → Arv Z h o8 kd8 .byte (Int32.ofNat 100) (tensL.map Value.int) (.int 0) → Arv Z h o2 kd1 .byte (Int32.ofNat c1) (wl l1 a (low nn1 j)) (.int 0) → Goes p.tables e below G (T.setTop (mkF m 22 #[iv (ng n), iv i1, rv o2, q3, q4, iv (Int32.ofNat (l1.length + a)), iv 1] [])) := by
      intro n
      induction n using Nat.strongRecOn with
      | _ n ih =>
        intro j a q3 q4 T L h hn hj ha hq3 hq4 XL eL NL KL ZL S7 S8 V7 V8 V2
        have h31 := n31 hN31 hn
        refine g_iloadN C XL d22_22 23 rfl ?_
        refine g_bipush C XL d22_23 25 (v := -100) rfl ?_
        refine g_icmp_gt C XL d22_25 72 28 (fun hc25 => ?_) (fun hc25 => ?_)
        · have hlt : n < 100 := (gc_gt h31).mp hc25
          have hd := gc_one hN31 hn hj
          refine g_aloadN C XL d22_72 73 rfl rfl ?_
          refine g_iinc C XL d22_73 76 rfl (w := (Int32.ofNat (l1.length + (a - 1)))) (pos_dec (by omega)) (ls' := #[iv (ng n), iv i1, rv o2, q3, q4, iv (Int32.ofNat (l1.length + (a - 1))), iv 1]) rfl ?_
          refine g_iload C XL d22_76 78 rfl ?_
          refine g_getS C XL (w_126 hw) Via.refl eL S7 d22_78 81 (fun T31 X31 e31 => ?_)
          refine g_iloadN C X31 d22_81 82 rfl ?_
          refine g_ineg C X31 d22_82 83 ?_
          refine g_baload C X31 e31 V7 (tab_in (ng_neg (Nat.lt_of_le_of_lt (Nat.le_of_lt hlt) (by decide))).symm hlt) (v := (.int (ch (n % 10)))) (tab_ones (ng_neg (Nat.lt_of_le_of_lt (Nat.le_of_lt hlt) (by decide))).symm hlt) d22_83 84 ?_
          refine g_bastore C X31 (i := (l1.length + (a - 1))) e31 V2 (pos_in (by omega) hc) (pos_nat (by omega) hc) (wl_lt (by omega)) d22_84 85 (fun T32 h32 X32 e32 W32 A32 => ?_)
          have f34 := S8.wr W32
          have f36 := V8.other W32 (Ne.symm ne_o2_o8)
          have f37 : Arv Z h32 o2 kd1 .byte (Int32.ofNat c1) (wl l1 (a - 1) (ch (n % 10) :: (low nn1 j))) (.int 0) := (wl_set' (l := l1) (a := (a - 1)) (b := a) (suf := (low nn1 j)) (by omega) (nar_ch (Nat.mod_lt _ (by decide)))) ▸ A32
          have N32 := Fr.snoc X32 NL gn_o2
          have K32 := KL.wr W32 (Or.inl (List.mem_of_getElem? (i := 0) rfl))
          refine g_iloadN C X32 d22_85 86 rfl ?_
          refine g_bipush C X32 d22_86 88 (v := -9) rfl ?_
          refine g_icmp_ge C X32 d22_88 104 91 (fun hc88 => ?_) (fun hc88 => ?_)
          · refine g_iload C X32 d22_104 106 rfl ?_
            refine g_if_eq C X32 d22_106 118 109 (fun hc106 => absurd hc106 (by decide)) (fun hc106 => ?_)
            refine g_aloadN C X32 d22_109 110 rfl rfl ?_
            refine g_iinc C X32 d22_110 113 rfl (w := (Int32.ofNat (l1.length + ((a - 1) - 1)))) (pos_dec (by omega)) (ls' := #[iv (ng n), iv i1, rv o2, q3, q4, iv (Int32.ofNat (l1.length + ((a - 1) - 1))), iv 1]) rfl ?_
            refine g_iload C X32 d22_113 115 rfl ?_
            refine g_bipush C X32 d22_115 117 (v := 45) rfl ?_
            refine g_bastore C X32 (i := (l1.length + ((a - 1) - 1))) e32 f37 (pos_in (by omega) hc) (pos_nat (by omega) hc) (wl_lt (by omega)) d22_117 118 (fun T38 h38 X38 e38 W38 A38 => ?_)
            have f43 : Arv Z h38 o2 kd1 .byte (Int32.ofNat c1) (wl l1 ((a - 1) - 1) (45 :: (ch (n % 10) :: (low nn1 j)))) (.int 0) := (wl_set' (l := l1) (a := ((a - 1) - 1)) (b := (a - 1)) (suf := (ch (n % 10) :: (low nn1 j))) (by omega) nar45) ▸ A38
            have N38 := Fr.snoc X38 N32 gn_o2
            have K38 := K32.wr W38 (Or.inl (List.mem_of_getElem? (i := 0) rfl))
            have he := gc_end1 hN31 hn hj (Classical.byContradiction fun q => hc88 ((gc_ge9 h31).mpr q))
            have hz : ((a - 1) - 1) = 0 := by omega
            have f44 : Arv Z h38 o2 kd1 .byte (Int32.ofNat c1) ((l1 ++ decI x1).map Value.int) (.int 0) := by rw [← gc_fin hz (by rw [hdec, he, ← gc_low1 hn])]; exact f43
            refine g_iload C X38 d22_118 120 rfl ?_
            exact g_retI C X38 K d22_120 (by decide) (by decide) e38 ⟨(by rw [hz, Nat.add_zero]), N38, K38, f44⟩
          · have h9 := (gc_ge9 h31).mp hc88
            have he := gc_end2 hN31 hn hlt h9
            refine g_aloadN C X32 d22_91 92 rfl rfl ?_
            refine g_iinc C X32 d22_92 95 rfl (w := (Int32.ofNat (l1.length + ((a - 1) - 1)))) (pos_dec (by omega)) (ls' := #[iv (ng n), iv i1, rv o2, q3, q4, iv (Int32.ofNat (l1.length + ((a - 1) - 1))), iv 1]) rfl ?_
            refine g_iload C X32 d22_95 97 rfl ?_
            refine g_getS C X32 (w_127 hw) Via.refl e32 f34 d22_97 100 (fun T45 X45 e45 => ?_)
            refine g_iloadN C X45 d22_100 101 rfl ?_
            refine g_ineg C X45 d22_101 102 ?_
            refine g_baload C X45 e45 f36 (tab_in (ng_neg (Nat.lt_of_le_of_lt (Nat.le_of_lt hlt) (by decide))).symm hlt) (v := (.int (ch (n / 10)))) (tab_tens (ng_neg (Nat.lt_of_le_of_lt (Nat.le_of_lt hlt) (by decide))).symm hlt) d22_102 103 ?_
            refine g_bastore C X45 (i := (l1.length + ((a - 1) - 1))) e45 f37 (pos_in (by omega) hc) (pos_nat (by omega) hc) (wl_lt (by omega)) d22_103 104 (fun T46 h46 X46 e46 W46 A46 => ?_)
            have f51 : Arv Z h46 o2 kd1 .byte (Int32.ofNat c1) (wl l1 ((a - 1) - 1) (ch (n / 10) :: (ch (n % 10) :: (low nn1 j)))) (.int 0) := (wl_set' (l := l1) (a := ((a - 1) - 1)) (b := (a - 1)) (suf := (ch (n % 10) :: (low nn1 j))) (by omega) (nar_ch (d := n / 10) (by omega))) ▸ A46
            have N46 := Fr.snoc X46 N32 gn_o2
            have K46 := K32.wr W46 (Or.inl (List.mem_of_getElem? (i := 0) rfl))
            refine g_iload C X46 d22_104 106 rfl ?_
            refine g_if_eq C X46 d22_106 118 109 (fun hc106 => absurd hc106 (by decide)) (fun hc106 => ?_)
            refine g_aloadN C X46 d22_109 110 rfl rfl ?_
            refine g_iinc C X46 d22_110 113 rfl (w := (Int32.ofNat (l1.length + (((a - 1) - 1) - 1)))) (pos_dec (by omega)) (ls' := #[iv (ng n), iv i1, rv o2, q3, q4, iv (Int32.ofNat (l1.length + (((a - 1) - 1) - 1))), iv 1]) rfl ?_
            refine g_iload C X46 d22_113 115 rfl ?_
            refine g_bipush C X46 d22_115 117 (v := 45) rfl ?_
            refine g_bastore C X46 (i := (l1.length + (((a - 1) - 1) - 1))) e46 f51 (pos_in (by omega) hc) (pos_nat (by omega) hc) (wl_lt (by omega)) d22_117 118 (fun T52 h52 X52 e52 W52 A52 => ?_)
            have f57 : Arv Z h52 o2 kd1 .byte (Int32.ofNat c1) (wl l1 (((a - 1) - 1) - 1) (45 :: (ch (n / 10) :: (ch (n % 10) :: (low nn1 j))))) (.int 0) := (wl_set' (l := l1) (a := (((a - 1) - 1) - 1)) (b := ((a - 1) - 1)) (suf := (ch (n / 10) :: (ch (n % 10) :: (low nn1 j)))) (by omega) nar45) ▸ A52
            have N52 := Fr.snoc X52 N46 gn_o2
            have K52 := K46.wr W52 (Or.inl (List.mem_of_getElem? (i := 0) rfl))
            have hz : (((a - 1) - 1) - 1) = 0 := by omega
            have f58 : Arv Z h52 o2 kd1 .byte (Int32.ofNat c1) ((l1 ++ decI x1).map Value.int) (.int 0) := by rw [← gc_fin hz (by rw [hdec, he, ← gc_low2 hn hlt])]; exact f57
            refine g_iload C X52 d22_118 120 rfl ?_
            exact g_retI C X52 K d22_120 (by decide) (by decide) e52 ⟨(by rw [hz, Nat.add_zero]), N52, K52, f58⟩
        · have hge : ¬ n < 100 := fun q => hc25 ((gc_gt h31).mpr q)
          have hd := gc_two hN31 hn hge
          refine g_iloadN C XL d22_28 29 rfl ?_
          refine g_bipush C XL d22_29 31 (v := 100) rfl ?_
          refine g_idiv C XL d22_31 32 (by decide) ?_
          refine g_istoreN C XL d22_32 33 (w := ((ng n) / (100 : Int32))) rfl (ls' := #[iv (ng n), iv i1, rv o2, iv ((ng n) / (100 : Int32)), q4, iv (Int32.ofNat (l1.length + a)), iv 1]) (by rcases hq3 with rfl | ⟨z, rfl⟩ <;> rcases hq4 with rfl | ⟨z, rfl⟩ <;> rfl) ?_
          refine g_iloadN C XL d22_33 34 rfl ?_
          refine g_bipush C XL d22_34 36 (v := 100) rfl ?_
          refine g_imul C XL d22_36 37 ?_
          refine g_iloadN C XL d22_37 38 rfl ?_
          refine g_isub C XL d22_38 39 ?_
          refine g_istore C XL d22_39 41 (w := ((((ng n) / (100 : Int32)) * (100 : Int32)) - (ng n))) rfl (ls' := #[iv (ng n), iv i1, rv o2, iv ((ng n) / (100 : Int32)), iv ((((ng n) / (100 : Int32)) * (100 : Int32)) - (ng n)), iv (Int32.ofNat (l1.length + a)), iv 1]) (by rcases hq4 with rfl | ⟨z, rfl⟩ <;> rfl) ?_
          refine g_iloadN C XL d22_41 42 rfl ?_
          refine g_istoreN C XL d22_42 43 (w := ((ng n) / (100 : Int32))) rfl (ls' := #[iv ((ng n) / (100 : Int32)), iv i1, rv o2, iv ((ng n) / (100 : Int32)), iv ((((ng n) / (100 : Int32)) * (100 : Int32)) - (ng n)), iv (Int32.ofNat (l1.length + a)), iv 1]) rfl ?_
          refine g_aloadN C XL d22_43 44 rfl rfl ?_
          refine g_iinc C XL d22_44 47 rfl (w := (Int32.ofNat (l1.length + (a - 1)))) (pos_dec (by omega)) (ls' := #[iv ((ng n) / (100 : Int32)), iv i1, rv o2, iv ((ng n) / (100 : Int32)), iv ((((ng n) / (100 : Int32)) * (100 : Int32)) - (ng n)), iv (Int32.ofNat (l1.length + (a - 1))), iv 1]) rfl ?_
          refine g_iload C XL d22_47 49 rfl ?_
          refine g_getS C XL (w_126 hw) Via.refl eL S7 d22_49 52 (fun T59 X59 e59 => ?_)
          refine g_iload C X59 d22_52 54 rfl ?_
          refine g_baload C X59 e59 V7 (tab_in (show Int32.ofNat (n % 100) = _ from by rw [ng_div h31]; exact (ng_rem h31).symm) (Nat.mod_lt n (by decide))) (v := (.int (ch (n % 100 % 10)))) (tab_ones (show Int32.ofNat (n % 100) = _ from by rw [ng_div h31]; exact (ng_rem h31).symm) (Nat.mod_lt n (by decide))) d22_54 55 ?_
          refine g_bastore C X59 (i := (l1.length + (a - 1))) e59 V2 (pos_in (by omega) hc) (pos_nat (by omega) hc) (wl_lt (by omega)) d22_55 56 (fun T60 h60 X60 e60 W60 A60 => ?_)
          have f61 := S7.wr W60
          have f62 := S8.wr W60
          have f63 := V7.other W60 (Ne.symm ne_o2_o7)
          have f64 := V8.other W60 (Ne.symm ne_o2_o8)
          have f65 : Arv Z h60 o2 kd1 .byte (Int32.ofNat c1) (wl l1 (a - 1) (ch (n % 100 % 10) :: (low nn1 j))) (.int 0) := (wl_set' (l := l1) (a := (a - 1)) (b := a) (suf := (low nn1 j)) (by omega) (nar_ch (Nat.mod_lt _ (by decide)))) ▸ A60
          have N60 := Fr.snoc X60 NL gn_o2
          have Z60 := Nat.le_trans ZL (Nat.le_of_eq W60.size.symm)
          have K60 := KL.wr W60 (Or.inl (List.mem_of_getElem? (i := 0) rfl))
          refine g_aloadN C X60 d22_56 57 rfl rfl ?_
          refine g_iinc C X60 d22_57 60 rfl (w := (Int32.ofNat (l1.length + ((a - 1) - 1)))) (pos_dec (by omega)) (ls' := #[iv ((ng n) / (100 : Int32)), iv i1, rv o2, iv ((ng n) / (100 : Int32)), iv ((((ng n) / (100 : Int32)) * (100 : Int32)) - (ng n)), iv (Int32.ofNat (l1.length + ((a - 1) - 1))), iv 1]) rfl ?_
          refine g_iload C X60 d22_60 62 rfl ?_
          refine g_getS C X60 (w_127 hw) Via.refl e60 f62 d22_62 65 (fun T66 X66 e66 => ?_)
          refine g_iload C X66 d22_65 67 rfl ?_
          refine g_baload C X66 e66 f64 (tab_in (show Int32.ofNat (n % 100) = _ from by rw [ng_div h31]; exact (ng_rem h31).symm) (Nat.mod_lt n (by decide))) (v := (.int (ch (n % 100 / 10)))) (tab_tens (show Int32.ofNat (n % 100) = _ from by rw [ng_div h31]; exact (ng_rem h31).symm) (Nat.mod_lt n (by decide))) d22_67 68 ?_
          refine g_bastore C X66 (i := (l1.length + ((a - 1) - 1))) e66 f65 (pos_in (by omega) hc) (pos_nat (by omega) hc) (wl_lt (by omega)) d22_68 69 (fun T67 h67 X67 e67 W67 A67 => ?_)
          have f68 := f61.wr W67
          have f69 := f62.wr W67
          have f70 := f63.other W67 (Ne.symm ne_o2_o7)
          have f71 := f64.other W67 (Ne.symm ne_o2_o8)
          have f72 : Arv Z h67 o2 kd1 .byte (Int32.ofNat c1) (wl l1 ((a - 1) - 1) (ch (n % 100 / 10) :: (ch (n % 100 % 10) :: (low nn1 j)))) (.int 0) := (wl_set' (l := l1) (a := ((a - 1) - 1)) (b := (a - 1)) (suf := (ch (n % 100 % 10) :: (low nn1 j))) (by omega) (nar_ch (d := n % 100 / 10) (by omega))) ▸ A67
          have N67 := Fr.snoc X67 N60 gn_o2
          have Z67 := Nat.le_trans Z60 (Nat.le_of_eq W67.size.symm)
          have K67 := K60.wr W67 (Or.inl (List.mem_of_getElem? (i := 0) rfl))
          refine g_goto C X67 d22_69 22 ?_
          rw [ng_div h31]
          have fL : Arv Z h67 o2 kd1 .byte (Int32.ofNat c1) (wl l1 ((a - 1) - 1) (low nn1 (j + 2))) (.int 0) := by rw [← gc_low3 hn]; exact f72
          exact ih (n / 100) (by omega) (j + 2) ((a - 1) - 1) _ _ _ _ _ (by rw [← div_two, hn]) (Or.inr (by omega)) (by omega) (Or.inr ⟨_, rfl⟩) (Or.inr ⟨_, rfl⟩) X67 e67 N67 K67 Z67 f68 f69 f70 f71 fL
    have fP : Arv Z h0 o2 kd1 .byte (Int32.ofNat c1) (wl l1 (decI x1).length (low nn1 0)) (.int 0) := by rw [show low nn1 0 = [] from rfl, wl_pad]; exact F0.pad (pad_rep _ _ _)
    rw [gc_in hN hc4]
    have := loop nn1 0 (decI x1).length uu uu _ _ _ (by simp) (Or.inl rfl) (by omega) (Or.inl rfl) (Or.inl rfl) X0 e0 N0 K00 Z0 F1 F2 F3 F4 fP
    rw [hi] at this
    exact this
theorem ef_21r (m : MethodId) (a1 : Addr) : entryFrame m #[(.ref a1)] 1 = mkF m 0 #[rv a1] [] := by first | (simp [entryFrame, mkF, argsToLocals, Value.category, iv, rv, jv, nv, uu, sd]; done) | rfl
theorem d21_0 : decode jdk_68_method_68_code 0 = .ok (.getstatic 18, 3) := by decide +kernel
theorem d21_3 : decode jdk_68_method_68_code 3 = .ok (.ifCond .eq 14, 3) := by decide +kernel
theorem d21_6 : decode jdk_68_method_68_code 6 = .ok (.aload_n 0, 1) := by decide +kernel
theorem d21_7 : decode jdk_68_method_68_code 7 = .ok (.getfield 22, 3) := by decide +kernel
theorem d21_10 : decode jdk_68_method_68_code 10 = .ok (.ifCond .ne 7, 3) := by decide +kernel
theorem d21_13 : decode jdk_68_method_68_code 13 = .ok (.iconst 1, 1) := by decide +kernel
theorem d21_14 : decode jdk_68_method_68_code 14 = .ok (.goto 4, 3) := by decide +kernel
theorem d21_18 : decode jdk_68_method_68_code 18 = .ok (.ireturn, 1) := by decide +kernel
abbrev y21 : MethodName := (⟨"java/lang/AbstractStringBuilder", "isLatin1", "()Z"⟩ : MethodName)
theorem rm21_b {o1 : Addr} {cs1 : Int32} (hw : OwnW a0 Z) (Z0 : n0 ≤ h0.size) (F0 : Fld Z h0 o1 "java/lang/AbstractStringBuilder" "coder" "B" (.int 0)) (F1 : OSc Z h0 cs1) (hcs : ¬ cs1 = (0 : Int32)) : OwnMF l Z y21 jdk_68_method_68_code 1 (some .boolean) ws ⟨0, 0, 0, 0⟩ #[(.ref o1)] h0 (OwnQ (some (.int 1)) h0 n0) := by
  refine bo (plainFor_of_name pn_9) ?_
  intro p e s m below meth c T0 G C hnm hnamed X0 e0 K
  have N0 := Fr.nil n0
  refine Goes.to (congrArg T0.setTop (ef_21r m o1)) ?_
  refine g_getS C X0 (w_50 hw) Via.refl e0 F1 d21_0 3 (fun T1 X1 e1 => ?_)
  refine g_if_eq C X1 d21_3 17 6 (fun hc3 => absurd hc3 hcs) (fun hc3 => ?_)
  refine g_aloadN C X1 d21_6 7 rfl rfl ?_
  refine g_getF C X1 (w_53 hw) Via.refl e1 F0 d21_7 10 (fun T2 X2 e2 => ?_)
  refine g_if_ne C X2 d21_10 17 13 (fun hc10 => absurd hc10 (by decide)) (fun hc10 => ?_)
  refine g_iconst C X2 d21_13 14 (v := 1) rfl ?_
  refine g_goto C X2 d21_14 18 ?_
  exact g_retN C X2 K (by simp) d21_18 (by decide) (by decide) e2 ⟨rfl, N0, rfl⟩
theorem ef_19ri (m : MethodId) (a1 : Addr) (a2 : Int32) : entryFrame m #[(.ref a1), (.int a2)] 4 = mkF m 0 #[rv a1, iv a2, uu, uu] [] := by first | (simp [entryFrame, mkF, argsToLocals, Value.category, iv, rv, jv, nv, uu, sd]; done) | rfl
theorem d19_0 : decode jdk_68_method_32_code 0 = .ok (.aload_n 0, 1) := by decide +kernel
theorem d19_1 : decode jdk_68_method_32_code 1 = .ok (.getfield 79, 3) := by decide +kernel
theorem d19_4 : decode jdk_68_method_32_code 4 = .ok (.istore_n 2, 1) := by decide +kernel
theorem d19_5 : decode jdk_68_method_32_code 5 = .ok (.iload_n 2, 1) := by decide +kernel
theorem d19_6 : decode jdk_68_method_32_code 6 = .ok (.iload_n 1, 1) := by decide +kernel
theorem d19_7 : decode jdk_68_method_32_code 7 = .ok (.invokestatic 245, 3) := by decide +kernel
theorem w_117 {Z : State} {a0 : Array Value} (hw : ∀ d ∈ tables_1, d.before a0 Z = true) : Jvm.Cond.before (Jvm.Cond.code ({ cls := "java/lang/Integer", name := "stringSize", desc := "(I)I" } : Jvm.MethodName) jdk_33_method_13_code (4 : Nat) (Option.some Jvm.ClassFile.FieldType.int)) a0 Z = true := hw _ (List.mem_of_getElem? (i := 117) rfl)
theorem w_116 {Z : State} {a0 : Array Value} (hw : ∀ d ∈ tables_1, d.before a0 Z = true) : Jvm.Cond.before (Jvm.Cond.initialized "java/lang/Integer") a0 Z = true := hw _ (List.mem_of_getElem? (i := 116) rfl)
theorem w_114 {Z : State} {a0 : Array Value} (hw : ∀ d ∈ tables_1, d.before a0 Z = true) : Jvm.Cond.before (Jvm.Cond.methodLink "java/lang/AbstractStringBuilder" (245 : Nat) ({ cls := "java/lang/Integer", name := "stringSize", desc := "(I)I" } : Jvm.MethodName)) a0 Z = true := hw _ (List.mem_of_getElem? (i := 114) rfl)
theorem w_115 {Z : State} {a0 : Array Value} (hw : ∀ d ∈ tables_1, d.before a0 Z = true) : Jvm.Cond.before (Jvm.Cond.static ({ cls := "java/lang/Integer", name := "stringSize", desc := "(I)I" } : Jvm.MethodName)) a0 Z = true := hw _ (List.mem_of_getElem? (i := 115) rfl)
theorem b_8 (hw : OwnW a0 Z) : CallS "java/lang/AbstractStringBuilder" 245 (⟨"java/lang/Integer", "stringSize", "(I)I"⟩ : MethodName) jdk_33_method_13_code (4 : Nat) (Option.some Jvm.ClassFile.FieldType.int) a0 Z := ⟨(w_114 hw), (w_115 hw), (w_116 hw), (w_117 hw)⟩
theorem d19_10 : decode jdk_68_method_32_code 10 = .ok (.iadd, 1) := by decide +kernel
theorem d19_11 : decode jdk_68_method_32_code 11 = .ok (.istore_n 3, 1) := by decide +kernel
theorem d19_12 : decode jdk_68_method_32_code 12 = .ok (.aload_n 0, 1) := by decide +kernel
theorem d19_13 : decode jdk_68_method_32_code 13 = .ok (.iload_n 3, 1) := by decide +kernel
theorem d19_14 : decode jdk_68_method_32_code 14 = .ok (.invokevirtual 100, 3) := by decide +kernel
theorem d19_17 : decode jdk_68_method_32_code 17 = .ok (.aload_n 0, 1) := by decide +kernel
theorem d19_18 : decode jdk_68_method_32_code 18 = .ok (.invokevirtual 83, 3) := by decide +kernel
theorem w_122 {Z : State} {a0 : Array Value} (hw : ∀ d ∈ tables_1, d.before a0 Z = true) : Jvm.Cond.before (Jvm.Cond.code ({ cls := "java/lang/AbstractStringBuilder", name := "isLatin1", desc := "()Z" } : Jvm.MethodName) jdk_68_method_68_code (1 : Nat) (Option.some Jvm.ClassFile.FieldType.boolean)) a0 Z = true := hw _ (List.mem_of_getElem? (i := 122) rfl)
theorem w_118 {Z : State} {a0 : Array Value} (hw : ∀ d ∈ tables_1, d.before a0 Z = true) : Jvm.Cond.before (Jvm.Cond.methodLink "java/lang/AbstractStringBuilder" (83 : Nat) ({ cls := "java/lang/AbstractStringBuilder", name := "isLatin1", desc := "()Z" } : Jvm.MethodName)) a0 Z = true := hw _ (List.mem_of_getElem? (i := 118) rfl)
theorem pd_11 : parseMethodDescriptor "()Z" = some ⟨[], some .boolean⟩ := by decide +kernel
theorem w_119 {Z : State} {a0 : Array Value} (hw : ∀ d ∈ tables_1, d.before a0 Z = true) : Jvm.Cond.before (Jvm.Cond.declares ({ cls := "java/lang/AbstractStringBuilder", name := "isLatin1", desc := "()Z" } : Jvm.MethodName)) a0 Z = true := hw _ (List.mem_of_getElem? (i := 119) rfl)
theorem w_121 {Z : State} {a0 : Array Value} (hw : ∀ d ∈ tables_1, d.before a0 Z = true) : Jvm.Cond.before (Jvm.Cond.selects "java/lang/StringBuilder" ({ cls := "java/lang/AbstractStringBuilder", name := "isLatin1", desc := "()Z" } : Jvm.MethodName) ({ cls := "java/lang/AbstractStringBuilder", name := "isLatin1", desc := "()Z" } : Jvm.MethodName)) a0 Z = true := hw _ (List.mem_of_getElem? (i := 121) rfl)
theorem w_120 {Z : State} {a0 : Array Value} (hw : ∀ d ∈ tables_1, d.before a0 Z = true) : Jvm.Cond.before (Jvm.Cond.instanceMethod ({ cls := "java/lang/AbstractStringBuilder", name := "isLatin1", desc := "()Z" } : Jvm.MethodName)) a0 Z = true := hw _ (List.mem_of_getElem? (i := 120) rfl)
theorem b_9 (hw : OwnW a0 Z) : CallV "java/lang/AbstractStringBuilder" 83 (⟨"java/lang/AbstractStringBuilder", "isLatin1", "()Z"⟩ : MethodName) "java/lang/StringBuilder" jdk_68_method_68_code (1 : Nat) (Option.some Jvm.ClassFile.FieldType.boolean) a0 Z := ⟨(w_118 hw), (w_119 hw), (w_121 hw), (w_120 hw), (w_122 hw), (w_47 hw)⟩
theorem d19_21 : decode jdk_68_method_32_code 21 = .ok (.ifCond .eq 16, 3) := by decide +kernel
theorem d19_24 : decode jdk_68_method_32_code 24 = .ok (.iload_n 1, 1) := by decide +kernel
theorem d19_25 : decode jdk_68_method_32_code 25 = .ok (.iload_n 3, 1) := by decide +kernel
theorem d19_26 : decode jdk_68_method_32_code 26 = .ok (.aload_n 0, 1) := by decide +kernel
theorem d19_27 : decode jdk_68_method_32_code 27 = .ok (.getfield 15, 3) := by decide +kernel
theorem d19_30 : decode jdk_68_method_32_code 30 = .ok (.invokestatic 248, 3) := by decide +kernel
theorem w_125 {Z : State} {a0 : Array Value} (hw : ∀ d ∈ tables_1, d.before a0 Z = true) : Jvm.Cond.before (Jvm.Cond.code ({ cls := "java/lang/Integer", name := "getChars", desc := "(II[B)I" } : Jvm.MethodName) jdk_33_method_12_code (7 : Nat) (Option.some Jvm.ClassFile.FieldType.int)) a0 Z = true := hw _ (List.mem_of_getElem? (i := 125) rfl)
theorem w_123 {Z : State} {a0 : Array Value} (hw : ∀ d ∈ tables_1, d.before a0 Z = true) : Jvm.Cond.before (Jvm.Cond.methodLink "java/lang/AbstractStringBuilder" (248 : Nat) ({ cls := "java/lang/Integer", name := "getChars", desc := "(II[B)I" } : Jvm.MethodName)) a0 Z = true := hw _ (List.mem_of_getElem? (i := 123) rfl)
theorem pd_12 : parseMethodDescriptor "(II[B)I" = some ⟨[.int, .int, (.array .byte)], some .int⟩ := by decide +kernel
theorem w_124 {Z : State} {a0 : Array Value} (hw : ∀ d ∈ tables_1, d.before a0 Z = true) : Jvm.Cond.before (Jvm.Cond.static ({ cls := "java/lang/Integer", name := "getChars", desc := "(II[B)I" } : Jvm.MethodName)) a0 Z = true := hw _ (List.mem_of_getElem? (i := 124) rfl)
theorem d19_33 : decode jdk_68_method_32_code 33 = .ok (.pop, 1) := by decide +kernel
theorem d19_34 : decode jdk_68_method_32_code 34 = .ok (.goto 14, 3) := by decide +kernel
theorem d19_48 : decode jdk_68_method_32_code 48 = .ok (.aload_n 0, 1) := by decide +kernel
theorem d19_49 : decode jdk_68_method_32_code 49 = .ok (.iload_n 3, 1) := by decide +kernel
theorem d19_50 : decode jdk_68_method_32_code 50 = .ok (.putfield 79, 3) := by decide +kernel
theorem d19_53 : decode jdk_68_method_32_code 53 = .ok (.aload_n 0, 1) := by decide +kernel
theorem d19_54 : decode jdk_68_method_32_code 54 = .ok (.areturn, 1) := by decide +kernel
def Q19 (Z : State) (o1 : Addr) (x1 : Int32) (o2 : Addr) (kd1 : ClassId) (c1 : Nat) (l1 : List Int32) (o7 : Addr) (o8 : Addr) (kd7 : ClassId) (kd8 : ClassId) (cs1 : Int32) (h0 : Heap) (n0 : Nat) (v : Option Value) (h : Heap) (L : List Loc) : Prop := ∃ (o3 : Addr) (kd3 : ClassId) (c3 : Nat), v = some (.ref o1) ∧ Fr n0 L ∧ (o3 = o2 ∨ h0.size ≤ o3) ∧ Keep h0 h [o1, o2] ∧ Fld Z h o1 "java/lang/AbstractStringBuilder" "value" "[B" (.ref o3) ∧ Fld Z h o1 "java/lang/AbstractStringBuilder" "coder" "B" (.int 0) ∧ Fld Z h o1 "java/lang/AbstractStringBuilder" "count" "I" (.int (Int32.ofNat (l1 ++ decI x1).length)) ∧ Arv Z h o3 kd3 .byte (Int32.ofNat c3) ((l1 ++ decI x1).map Value.int) (.int 0) ∧ Exa Z h o3 "[B" ∧ c3 ≤ 90 ∧ (l1 ++ decI x1).length ≤ c3
abbrev y19 : MethodName := (⟨"java/lang/AbstractStringBuilder", "append", "(I)Ljava/lang/AbstractStringBuilder;"⟩ : MethodName)
theorem rm19 {o1 o2 o7 o8 : Addr} {x1 cs1 : Int32} {kd1 kd7 kd8 : ClassId} {c1 : Nat} {l1 : List Int32} (hw : OwnW a0 Z) (Z0 : n0 ≤ h0.size) (F0 : Exa Z h0 o1 "java/lang/StringBuilder") (F1 : Fld Z h0 o1 "java/lang/AbstractStringBuilder" "value" "[B" (.ref o2)) (F2 : Fld Z h0 o1 "java/lang/AbstractStringBuilder" "coder" "B" (.int 0)) (F3 : Fld Z h0 o1 "java/lang/AbstractStringBuilder" "count" "I" (.int (Int32.ofNat l1.length))) (F4 : Arv Z h0 o2 kd1 .byte (Int32.ofNat c1) (l1.map Value.int) (.int 0)) (F5 : Exa Z h0 o2 "[B") (F6 : Sta Z h0 "java/lang/Integer" "DigitOnes" "[B" (.ref o7)) (F7 : Sta Z h0 "java/lang/Integer" "DigitTens" "[B" (.ref o8)) (F8 : Arv Z h0 o7 kd7 .byte (Int32.ofNat 100) (onesL.map Value.int) (.int 0)) (F9 : Arv Z h0 o8 kd8 .byte (Int32.ofNat 100) (tensL.map Value.int) (.int 0)) (F10 : OSc Z h0 cs1) (gn_o1 : n0 ≤ o1) (gn_o2 : n0 ≤ o2) (hcs : ¬ cs1 = (0 : Int32)) (hc : c1 ≤ 90) (hll : l1.length ≤ c1) (hm : l1.length + (decI x1).length ≤ 45) (ne_o1_o2 : o1 ≠ o2) (ne_o1_o7 : o1 ≠ o7) (ne_o1_o8 : o1 ≠ o8) (ne_o2_o7 : o2 ≠ o7) (ne_o2_o8 : o2 ≠ o8) : OwnMF l Z y19 jdk_68_method_32_code 4 (some (.object "java/lang/AbstractStringBuilder")) ws ⟨4, 1, 90, 62⟩ #[(.ref o1), (.int x1)] h0 (Q19 Z o1 x1 o2 kd1 c1 l1 o7 o8 kd7 kd8 cs1 h0 n0) := by
  refine bo (plainFor_of_name pn_9) ?_
  intro p e s m below meth c T0 G C hnm hnamed X0 e0 K
  have N0 := Fr.nil n0
  refine Goes.to (congrArg T0.setTop (ef_19ri m o1 x1)) ?_
  have K00 := Keep.refl h0 [o1, o2]
  refine g_aloadN C X0 d19_0 1 rfl rfl ?_
  refine g_getF C X0 (w_78 hw) Via.refl e0 F3 d19_1 4 (fun T1 X1 e1 => ?_)
  refine g_istoreN C X1 d19_4 5 (w := (Int32.ofNat l1.length)) rfl (ls' := #[rv o1, iv x1, iv (Int32.ofNat l1.length), uu]) rfl ?_
  refine g_iloadN C X1 d19_5 6 rfl ?_
  refine g_iloadN C X1 d19_6 7 rfl ?_
  refine g_callS0 C X1 (b_8 hw) d19_7 [(.int x1)] [(.int (Int32.ofNat l1.length))] 1 (rm20 hw Z0) N0 pd_4 e1 10 (fun T2 _ X2 N2 e2 => ?_)
  refine g_iadd C X2 d19_10 11 ?_
  refine g_istoreN C X2 d19_11 12 (w := ((Int32.ofNat l1.length) + (fSize x1))) rfl (ls' := #[rv o1, iv x1, iv (Int32.ofNat l1.length), iv ((Int32.ofNat l1.length) + (fSize x1))]) rfl ?_
  refine g_aloadN C X2 d19_12 13 rfl rfl ?_
  refine g_iloadN C X2 d19_13 14 rfl ?_
  refine g_callV C X2 (w_80 hw) (declares_of (w_81 hw) (w_84 hw)) (notFace_of_selects (args := #[]) (mvT C.2.1 (w_83 hw))) (w_83 hw) (w_81 hw) (w_84 hw) (w_47 hw) F0 d19_14 [(.int ((Int32.ofNat l1.length) + (fSize x1)))] [] 0 (rm14 hw Z0 F0 F1 F2 F3 F4 F5 gn_o1 (show Int32.ofNat (l1.length + (decI x1).length) = _ from by rw [size_eq, i_add]) hm hc hll ne_o1_o2) pd_0 e2 17 (fun u3 T3 L3 X3 hQ3 => ?_)
  obtain ⟨o33, kd33, c33, rfl, Nq3, szo33, Kq3, q3_0, q3_1, q3_2, q3_3, q3_4, p3_mc, p3_c90⟩ := hQ3
  have N3 := Fr.app N2 Nq3
  have n4 : o1 ≠ o33 := alt_ne szo33 ne_o1_o2 F0.lt
  have n5 : o7 ≠ o33 := alt_ne szo33 (Ne.symm ne_o2_o7) F8.lt
  have n6 : o8 ≠ o33 := alt_ne szo33 (Ne.symm ne_o2_o8) F9.lt
  have f7 := F0.keep Kq3
  have f8 := Sta.keepN F6 Kq3 (allS (Exa.ns F0) all0)
  have f9 := Sta.keepN F7 Kq3 (allS (Exa.ns F0) all0)
  have f10 := F8.keep Kq3 (ninS (Ne.symm ne_o1_o7) nin0)
  have f11 := F9.keep Kq3 (ninS (Ne.symm ne_o1_o8) nin0)
  have f12 := Sta.keepN F10 Kq3 (allS (Exa.ns F0) all0)
  have gn_o33 : n0 ≤ o33 := alt_born szo33 gn_o2 Z0
  have Z3 := Nat.le_trans Z0 Kq3.1
  have al_o33 := alt_lift szo33 K00.1
  have K3 := K00.trans Kq3 (allS (Or.inl (List.mem_of_getElem? (i := 0) rfl)) all0)
  refine ret0 ?_
  refine g_aloadN C X3 d19_17 18 rfl rfl ?_
  refine g_callV0 C X3 (b_9 hw) f7 d19_18 [] [] 0 (rm21_b hw Z3 q3_1 f12 hcs) N3 pd_11 rfl 21 (fun T13 _ X13 N13 e13 => ?_)
  refine g_if_eq C X13 d19_21 37 24 (fun hc21 => absurd hc21 (by decide)) (fun hc21 => ?_)
  refine g_iloadN C X13 d19_24 25 rfl ?_
  refine g_iloadN C X13 d19_25 26 rfl ?_
  refine g_aloadN C X13 d19_26 27 rfl rfl ?_
  refine g_getF C X13 (w_51 hw) Via.refl e13 q3_0 d19_27 30 (fun T14 X14 e14 => ?_)
  refine g_callS C X14 (w_123 hw) (w_124 hw) (w_116 hw) (w_125 hw) d19_30 [(.int x1), (.int ((Int32.ofNat l1.length) + (fSize x1))), (.ref o33)] [] 0 (rm22 hw Z3 q3_3 f8 f9 f10 f11 gn_o33 rfl (show Int32.ofNat (l1.length + (decI x1).length) = _ from by rw [size_eq, i_add]) p3_mc p3_c90 (Ne.symm n5) (Ne.symm n6)) pd_12 e14 33 (fun u15 T15 L15 X15 hQ15 => ?_)
  obtain ⟨rfl, Nq15, Kq15, q15_0⟩ := hQ15
  have N15 := Fr.app N13 Nq15
  have f16 := f7.keep Kq15
  have f22 := q3_0.keep Kq15 (ninS n4 nin0)
  have f23 := q3_1.keep Kq15 (ninS n4 nin0)
  have f24 := q3_2.keep Kq15 (ninS n4 nin0)
  have f25 := q3_4.keep Kq15
  have K15 := K3.trans Kq15 (allS (alt_in al_o33 (List.mem_of_getElem? (i := 1) rfl)) all0)
  refine ret1 ?_
  refine g_pop C X15 d19_33 34 rfl ?_
  refine g_goto C X15 d19_34 48 ?_
  refine g_aloadN C X15 d19_48 49 rfl rfl ?_
  refine g_iloadN C X15 d19_49 50 rfl ?_
  refine g_putF C X15 (w_78 hw) Via.refl rfl f24 f16 (Or.inl (w_79 hw)) (w_38 hw) (ty := .int) (by decide) rfl rfl d19_50 53 (fun T26 h26 X26 e26 W26 => ?_)
  have f33 := f22.other W26 (Or.inr (slot_ne (Or.inl (w_52 hw)) (Or.inl (w_79 hw)) (by decide) (t := (.array .byte)) (t' := .int) (by decide) (by decide)))
  have f34 := f23.other W26 (Or.inr (slot_ne (Or.inl (w_54 hw)) (Or.inl (w_79 hw)) (by decide) (t := .byte) (t' := .int) (by decide) (by decide)))
  have f35 := f24.same W26
  have f36 := f25.wr W26
  have f37 := q15_0.other W26 (Ne.symm n4)
  have N26 := Fr.snoc X26 N15 gn_o1
  have K26 := K15.wr W26 (Or.inl (List.mem_of_getElem? (i := 0) rfl))
  have f38 : Fld Z h26 o1 "java/lang/AbstractStringBuilder" "count" "I" (.int (Int32.ofNat (l1 ++ decI x1).length)) := by rw [app_len, ← size_eq]; exact f35
  refine g_aloadN C X26 d19_53 54 rfl rfl ?_
  exact g_retA C X26 K rfl rfl rfl d19_54 (by decide) (by decide) e26 ⟨o33, kd33, c33, rfl, N26, al_o33, K26, f33, f34, f38, f37, f36, p3_c90, (by rw [List.length_append]; exact p3_mc)⟩
theorem ef_18ri (m : MethodId) (a1 : Addr) (a2 : Int32) : entryFrame m #[(.ref a1), (.int a2)] 2 = mkF m 0 #[rv a1, iv a2] [] := by first | (simp [entryFrame, mkF, argsToLocals, Value.category, iv, rv, jv, nv, uu, sd]; done) | rfl
theorem d18_0 : decode jdk_67_method_15_code 0 = .ok (.aload_n 0, 1) := by decide +kernel
theorem d18_1 : decode jdk_67_method_15_code 1 = .ok (.iload_n 1, 1) := by decide +kernel
theorem d18_2 : decode jdk_67_method_15_code 2 = .ok (.invokespecial 53, 3) := by decide +kernel
theorem w_113 {Z : State} {a0 : Array Value} (hw : ∀ d ∈ tables_1, d.before a0 Z = true) : Jvm.Cond.before (Jvm.Cond.code ({ cls := "java/lang/AbstractStringBuilder", name := "append", desc := "(I)Ljava/lang/AbstractStringBuilder;" } : Jvm.MethodName) jdk_68_method_32_code (4 : Nat) (Option.some (Jvm.ClassFile.FieldType.object "java/lang/AbstractStringBuilder"))) a0 Z = true := hw _ (List.mem_of_getElem? (i := 113) rfl)
theorem w_110 {Z : State} {a0 : Array Value} (hw : ∀ d ∈ tables_1, d.before a0 Z = true) : Jvm.Cond.before (Jvm.Cond.methodLink "java/lang/StringBuilder" (53 : Nat) ({ cls := "java/lang/AbstractStringBuilder", name := "append", desc := "(I)Ljava/lang/AbstractStringBuilder;" } : Jvm.MethodName)) a0 Z = true := hw _ (List.mem_of_getElem? (i := 110) rfl)
theorem pd_13 : parseMethodDescriptor "(I)Ljava/lang/AbstractStringBuilder;" = some ⟨[.int], some (.object "java/lang/AbstractStringBuilder")⟩ := by decide +kernel
theorem w_112 {Z : State} {a0 : Array Value} (hw : ∀ d ∈ tables_1, d.before a0 Z = true) : Jvm.Cond.before (Jvm.Cond.declares ({ cls := "java/lang/AbstractStringBuilder", name := "append", desc := "(I)Ljava/lang/AbstractStringBuilder;" } : Jvm.MethodName)) a0 Z = true := hw _ (List.mem_of_getElem? (i := 112) rfl)
theorem w_111 {Z : State} {a0 : Array Value} (hw : ∀ d ∈ tables_1, d.before a0 Z = true) : Jvm.Cond.before (Jvm.Cond.instanceMethod ({ cls := "java/lang/AbstractStringBuilder", name := "append", desc := "(I)Ljava/lang/AbstractStringBuilder;" } : Jvm.MethodName)) a0 Z = true := hw _ (List.mem_of_getElem? (i := 111) rfl)
theorem d18_5 : decode jdk_67_method_15_code 5 = .ok (.pop, 1) := by decide +kernel
theorem d18_6 : decode jdk_67_method_15_code 6 = .ok (.aload_n 0, 1) := by decide +kernel
theorem d18_7 : decode jdk_67_method_15_code 7 = .ok (.areturn, 1) := by decide +kernel
def Q18 (Z : State) (o1 : Addr) (x1 : Int32) (o2 : Addr) (kd1 : ClassId) (c1 : Nat) (l1 : List Int32) (o7 : Addr) (o8 : Addr) (kd7 : ClassId) (kd8 : ClassId) (cs1 : Int32) (h0 : Heap) (n0 : Nat) (v : Option Value) (h : Heap) (L : List Loc) : Prop := ∃ (o3 : Addr) (kd3 : ClassId) (c3 : Nat), v = some (.ref o1) ∧ Fr n0 L ∧ (o3 = o2 ∨ h0.size ≤ o3) ∧ Keep h0 h [o1, o2] ∧ Fld Z h o1 "java/lang/AbstractStringBuilder" "value" "[B" (.ref o3) ∧ Fld Z h o1 "java/lang/AbstractStringBuilder" "coder" "B" (.int 0) ∧ Fld Z h o1 "java/lang/AbstractStringBuilder" "count" "I" (.int (Int32.ofNat (l1 ++ decI x1).length)) ∧ Arv Z h o3 kd3 .byte (Int32.ofNat c3) ((l1 ++ decI x1).map Value.int) (.int 0) ∧ Exa Z h o3 "[B" ∧ c3 ≤ 90 ∧ (l1 ++ decI x1).length ≤ c3
abbrev y18 : MethodName := (⟨"java/lang/StringBuilder", "append", "(I)Ljava/lang/StringBuilder;"⟩ : MethodName)
theorem rm18 {o1 o2 o7 o8 : Addr} {x1 cs1 : Int32} {kd1 kd7 kd8 : ClassId} {c1 : Nat} {l1 : List Int32} (hw : OwnW a0 Z) (Z0 : n0 ≤ h0.size) (F0 : Exa Z h0 o1 "java/lang/StringBuilder") (F1 : Fld Z h0 o1 "java/lang/AbstractStringBuilder" "value" "[B" (.ref o2)) (F2 : Fld Z h0 o1 "java/lang/AbstractStringBuilder" "coder" "B" (.int 0)) (F3 : Fld Z h0 o1 "java/lang/AbstractStringBuilder" "count" "I" (.int (Int32.ofNat l1.length))) (F4 : Arv Z h0 o2 kd1 .byte (Int32.ofNat c1) (l1.map Value.int) (.int 0)) (F5 : Exa Z h0 o2 "[B") (F6 : Sta Z h0 "java/lang/Integer" "DigitOnes" "[B" (.ref o7)) (F7 : Sta Z h0 "java/lang/Integer" "DigitTens" "[B" (.ref o8)) (F8 : Arv Z h0 o7 kd7 .byte (Int32.ofNat 100) (onesL.map Value.int) (.int 0)) (F9 : Arv Z h0 o8 kd8 .byte (Int32.ofNat 100) (tensL.map Value.int) (.int 0)) (F10 : OSc Z h0 cs1) (gn_o1 : n0 ≤ o1) (gn_o2 : n0 ≤ o2) (hcs : ¬ cs1 = (0 : Int32)) (hc : c1 ≤ 90) (hll : l1.length ≤ c1) (hm : l1.length + (decI x1).length ≤ 45) (ne_o1_o2 : o1 ≠ o2) (ne_o1_o7 : o1 ≠ o7) (ne_o1_o8 : o1 ≠ o8) (ne_o2_o7 : o2 ≠ o7) (ne_o2_o8 : o2 ≠ o8) : OwnMF l Z y18 jdk_67_method_15_code 2 (some (.object "java/lang/StringBuilder")) ws ⟨5, 1, 90, 77⟩ #[(.ref o1), (.int x1)] h0 (Q18 Z o1 x1 o2 kd1 c1 l1 o7 o8 kd7 kd8 cs1 h0 n0) := by
  refine bo (plainFor_of_name pn_8) ?_
  intro p e s m below meth c T0 G C hnm hnamed X0 e0 K
  have N0 := Fr.nil n0
  refine Goes.to (congrArg T0.setTop (ef_18ri m o1 x1)) ?_
  have K00 := Keep.refl h0 [o1, o2]
  refine g_aloadN C X0 d18_0 1 rfl rfl ?_
  refine g_iloadN C X0 d18_1 2 rfl ?_
  refine g_callU C X0 (w_110 hw) (w_112 hw) (w_111 hw) (w_65 hw) (w_83 hw) rfl (w_113 hw) (w_47 hw) (by decide) F0 d18_2 [(.int x1)] [] 0 (rm19 hw Z0 F0 F1 F2 F3 F4 F5 F6 F7 F8 F9 F10 gn_o1 gn_o2 hcs hc hll hm ne_o1_o2 ne_o1_o7 ne_o1_o8 ne_o2_o7 ne_o2_o8) pd_13 e0 5 (fun u1 T1 L1 X1 hQ1 => ?_)
  obtain ⟨o31, kd31, c31, rfl, Nq1, szo31, Kq1, q1_0, q1_1, q1_2, q1_3, q1_4, p1_c90, p1_ll⟩ := hQ1
  have N1 := Fr.app N0 Nq1
  have al_o31 := alt_lift szo31 K00.1
  have K1 := K00.trans Kq1 (allS (Or.inl (List.mem_of_getElem? (i := 0) rfl)) (allS (Or.inl (List.mem_of_getElem? (i := 1) rfl)) all0))
  refine ret1 ?_
  refine g_pop C X1 d18_5 6 rfl ?_
  refine g_aloadN C X1 d18_6 7 rfl rfl ?_
  exact g_retA C X1 K rfl rfl rfl d18_7 (by decide) (by decide) rfl ⟨o31, kd31, c31, rfl, N1, al_o31, K1, q1_0, q1_1, q1_2, q1_3, q1_4, p1_c90, p1_ll⟩
theorem cr_n0 {l : List Int32} {i : Int32} (hi : Int32.ofNat l.length = i) (h : l.length ≤ 90) : ¬ i < 0 := hi ▸ i_nn _ (by omega)
theorem i_sub0 (i : Int32) : i - 0 = i := Int32.sub_zero i
theorem cr_n {l : List Int32} {i : Int32} (hi : Int32.ofNat l.length = i) (h : l.length ≤ 90) : ¬ (i - 0) < 0 := by rw [i_sub0]; exact cr_n0 hi h
theorem cr_cap {l : List Int32} {i : Int32} (hi : Int32.ofNat l.length = i) (h : l.length ≤ 90) : (i - 0).toNatClampNeg ≤ 90 := by rw [i_sub0, ← hi, i_toNat _ (by omega)]; exact h
theorem cr_eq {l : List Int32} {i : Int32} (hi : Int32.ofNat l.length = i) : (i - 0) = Int32.ofNat l.length := by rw [i_sub0, hi]
theorem cr_min {l : List Int32} {i : Int32} {c : Nat} (hi : Int32.ofNat l.length = i) (hl : l.length ≤ c) (hc : c ≤ 90) : fMin (Int32.ofNat c - 0) (i - 0) = Int32.ofNat l.length := by
  rw [i_sub0, i_sub0, ← hi, min_eq _ _ (by omega) (by omega), Nat.min_eq_right hl]
theorem cr_t {l : List Int32} {i : Int32} {c : Nat} (hi : Int32.ofNat l.length = i) (hl : l.length ≤ c) (hc : c ≤ 90) : (fMin (Int32.ofNat c - 0) (i - 0)).toNatClampNeg = l.length := by rw [cr_min hi hl hc, i_toNat _ (by omega)]
theorem cr_h3 {l : List Int32} {i : Int32} {c : Nat} (hi : Int32.ofNat l.length = i) (hl : l.length ≤ c) (hc : c ≤ 90) : ¬ fMin (Int32.ofNat c - 0) (i - 0) < 0 := by rw [cr_min hi hl hc]; exact i_nn _ (by omega)
theorem cr_h4 {l : List Int32} {i : Int32} {c : Nat} (hi : Int32.ofNat l.length = i) (hl : l.length ≤ c) (hc : c ≤ 90) : (0 : Int32).toNatClampNeg + (fMin (Int32.ofNat c - 0) (i - 0)).toNatClampNeg ≤ (Int32.ofNat c).toNatClampNeg := by rw [cr_t hi hl hc, i_toNat c (by omega)]; show 0 + _ ≤ _; omega
theorem cr_h5 {l : List Int32} {i : Int32} {c : Nat} (hi : Int32.ofNat l.length = i) (hl : l.length ≤ c) (hc : c ≤ 90) : (0 : Int32).toNatClampNeg + (fMin (Int32.ofNat c - 0) (i - 0)).toNatClampNeg ≤ (Int32.ofNat l.length).toNatClampNeg := by rw [cr_t hi hl hc, i_toNat _ (by omega)]; show 0 + _ ≤ _; omega
theorem cr_hl {l : List Int32} {i : Int32} {c : Nat} (hi : Int32.ofNat l.length = i) (hl : l.length ≤ c) (hc : c ≤ 90) : (0 : Int32).toNatClampNeg + (fMin (Int32.ofNat c - 0) (i - 0)).toNatClampNeg ≤ ([] ++ List.replicate l.length (Value.int 0)).length := by rw [cr_t hi hl hc]; show 0 + _ ≤ _; simp
theorem cr_ll {l : List Int32} {i : Int32} {c : Nat} (hi : Int32.ofNat l.length = i) (hl : l.length ≤ c) (hc : c ≤ 90) : l.length ≤ (fMin (Int32.ofNat c - 0) (i - 0)).toNatClampNeg := by rw [cr_t hi hl hc]; exact Nat.le_refl _
theorem cr_c {c : Nat} (hc : c ≤ 90) : (Int32.ofNat c).toNatClampNeg ≤ 90 := by rw [i_toNat c (by omega)]; exact hc

theorem ef_36ii (m : MethodId) (a1 : Int32) (a2 : Int32) : entryFrame m #[(.int a1), (.int a2)] 2 = mkF m 0 #[iv a1, iv a2] [] := by first | (simp [entryFrame, mkF, argsToLocals, Value.category, iv, rv, jv, nv, uu, sd]; done) | rfl
theorem d36_0 : decode jdk_65_method_131_code 0 = .ok (.iload_n 1, 1) := by decide +kernel
theorem d36_1 : decode jdk_65_method_131_code 1 = .ok (.iload_n 0, 1) := by decide +kernel
theorem d36_2 : decode jdk_65_method_131_code 2 = .ok (.if_icmp .ge 35, 3) := by decide +kernel
theorem d36_37 : decode jdk_65_method_131_code 37 = .ok (.return_, 1) := by decide +kernel
abbrev y36 : MethodName := (⟨"java/util/Arrays", "checkLength", "(II)V"⟩ : MethodName)
theorem rm36_s {i1 : Int32} (hw : OwnW a0 Z) (Z0 : n0 ≤ h0.size) (h0i : ¬ i1 < (0 : Int32)) : OwnMF l Z y36 jdk_65_method_131_code 2 none ws ⟨0, 0, 0, 0⟩ #[(.int 0), (.int i1)] h0 (OwnQ none h0 n0) := by
  refine bo (plainFor_of_name pn_26) ?_
  intro p e s m below meth c T0 G C hnm hnamed X0 e0 K
  have N0 := Fr.nil n0
  refine Goes.to (congrArg T0.setTop (ef_36ii m (0 : Int32) i1)) ?_
  refine g_iloadN C X0 d36_0 1 rfl ?_
  refine g_iloadN C X0 d36_1 2 rfl ?_
  refine g_icmp_ge C X0 d36_2 37 5 (fun hc2 => ?_) (fun hc2 => absurd hc2 h0i)
  exact g_retV C X0 K d36_37 (by decide) (by decide) e0 ⟨rfl, N0, rfl⟩
theorem ef_35rii (m : MethodId) (a1 : Addr) (a2 : Int32) (a3 : Int32) : entryFrame m #[(.ref a1), (.int a2), (.int a3)] 5 = mkF m 0 #[rv a1, iv a2, iv a3, uu, uu] [] := by first | (simp [entryFrame, mkF, argsToLocals, Value.category, iv, rv, jv, nv, uu, sd]; done) | rfl
theorem d35_0 : decode jdk_65_method_133_code 0 = .ok (.iload_n 1, 1) := by decide +kernel
theorem d35_1 : decode jdk_65_method_133_code 1 = .ok (.iload_n 2, 1) := by decide +kernel
theorem d35_2 : decode jdk_65_method_133_code 2 = .ok (.invokestatic 343, 3) := by decide +kernel
theorem w_187 {Z : State} {a0 : Array Value} (hw : ∀ d ∈ tables_1, d.before a0 Z = true) : Jvm.Cond.before (Jvm.Cond.code ({ cls := "java/util/Arrays", name := "checkLength", desc := "(II)V" } : Jvm.MethodName) jdk_65_method_131_code (2 : Nat) (Option.none : Option Jvm.ClassFile.FieldType)) a0 Z = true := hw _ (List.mem_of_getElem? (i := 187) rfl)
theorem w_185 {Z : State} {a0 : Array Value} (hw : ∀ d ∈ tables_1, d.before a0 Z = true) : Jvm.Cond.before (Jvm.Cond.methodLink "java/util/Arrays" (343 : Nat) ({ cls := "java/util/Arrays", name := "checkLength", desc := "(II)V" } : Jvm.MethodName)) a0 Z = true := hw _ (List.mem_of_getElem? (i := 185) rfl)
theorem pd_14 : parseMethodDescriptor "(II)V" = some ⟨[.int, .int], none⟩ := by decide +kernel
theorem w_186 {Z : State} {a0 : Array Value} (hw : ∀ d ∈ tables_1, d.before a0 Z = true) : Jvm.Cond.before (Jvm.Cond.static ({ cls := "java/util/Arrays", name := "checkLength", desc := "(II)V" } : Jvm.MethodName)) a0 Z = true := hw _ (List.mem_of_getElem? (i := 186) rfl)
theorem b_10 (hw : OwnW a0 Z) : CallS "java/util/Arrays" 343 (⟨"java/util/Arrays", "checkLength", "(II)V"⟩ : MethodName) jdk_65_method_131_code (2 : Nat) (Option.none : Option Jvm.ClassFile.FieldType) a0 Z := ⟨(w_185 hw), (w_186 hw), (w_146 hw), (w_187 hw)⟩
theorem d35_5 : decode jdk_65_method_133_code 5 = .ok (.iload_n 2, 1) := by decide +kernel
theorem d35_6 : decode jdk_65_method_133_code 6 = .ok (.iload_n 1, 1) := by decide +kernel
theorem d35_7 : decode jdk_65_method_133_code 7 = .ok (.isub, 1) := by decide +kernel
theorem d35_8 : decode jdk_65_method_133_code 8 = .ok (.istore_n 3, 1) := by decide +kernel
theorem d35_9 : decode jdk_65_method_133_code 9 = .ok (.iload_n 3, 1) := by decide +kernel
theorem d35_10 : decode jdk_65_method_133_code 10 = .ok (.newarray .byte, 2) := by decide +kernel
theorem d35_12 : decode jdk_65_method_133_code 12 = .ok (.astore 4, 2) := by decide +kernel
theorem d35_14 : decode jdk_65_method_133_code 14 = .ok (.aload_n 0, 1) := by decide +kernel
theorem d35_15 : decode jdk_65_method_133_code 15 = .ok (.iload_n 1, 1) := by decide +kernel
theorem d35_16 : decode jdk_65_method_133_code 16 = .ok (.aload 4, 2) := by decide +kernel
theorem d35_18 : decode jdk_65_method_133_code 18 = .ok (.iconst 0, 1) := by decide +kernel
theorem d35_19 : decode jdk_65_method_133_code 19 = .ok (.aload_n 0, 1) := by decide +kernel
theorem d35_20 : decode jdk_65_method_133_code 20 = .ok (.arraylength, 1) := by decide +kernel
theorem d35_21 : decode jdk_65_method_133_code 21 = .ok (.iload_n 1, 1) := by decide +kernel
theorem d35_22 : decode jdk_65_method_133_code 22 = .ok (.isub, 1) := by decide +kernel
theorem d35_23 : decode jdk_65_method_133_code 23 = .ok (.iload_n 3, 1) := by decide +kernel
theorem d35_24 : decode jdk_65_method_133_code 24 = .ok (.invokestatic 304, 3) := by decide +kernel
theorem d35_27 : decode jdk_65_method_133_code 27 = .ok (.invokestatic 150, 3) := by decide +kernel
theorem d35_30 : decode jdk_65_method_133_code 30 = .ok (.aload 4, 2) := by decide +kernel
theorem d35_32 : decode jdk_65_method_133_code 32 = .ok (.areturn, 1) := by decide +kernel
def Q35_s (Z : State) (o2 : Addr) (i1 : Int32) (kd1 : ClassId) (c1 : Nat) (l1 : List Int32) (h0 : Heap) (n0 : Nat) (v : Option Value) (h : Heap) (L : List Loc) : Prop := ∃ (o3 : Addr) (kd3 : ClassId), v = some (.ref o3) ∧ Fr n0 L ∧ h0.size ≤ o3 ∧ Keep h0 h [] ∧ Arv Z h o3 kd3 .byte (Int32.ofNat l1.length) (l1.map Value.int) (.int 0)
abbrev y35 : MethodName := (⟨"java/util/Arrays", "copyOfRangeByte", "([BII)[B"⟩ : MethodName)
theorem rm35_s {o2 : Addr} {i1 : Int32} {kd1 : ClassId} {c1 : Nat} {l1 : List Int32} (hw : OwnW a0 Z) (Z0 : n0 ≤ h0.size) (F0 : Arv Z h0 o2 kd1 .byte (Int32.ofNat c1) (l1.map Value.int) (.int 0)) (hi : Int32.ofNat l1.length = i1) (hl : l1.length ≤ c1) (hc : c1 ≤ 90) : OwnMF l Z y35 jdk_65_method_133_code 5 (some (.array .byte)) ws ⟨1, 1, 90, 18⟩ #[(.ref o2), (.int 0), (.int i1)] h0 (Q35_s Z o2 i1 kd1 c1 l1 h0 n0) := by
  refine bo (plainFor_of_name pn_26) ?_
  intro p e s m below meth c T0 G C hnm hnamed X0 e0 K
  have N0 := Fr.nil n0
  refine Goes.to (congrArg T0.setTop (ef_35rii m o2 (0 : Int32) i1)) ?_
  have K00 := Keep.refl h0 []
  refine g_iloadN C X0 d35_0 1 rfl ?_
  refine g_iloadN C X0 d35_1 2 rfl ?_
  refine g_callSn C X0 (b_10 hw) d35_2 [(.int 0), (.int i1)] [] 0 (rm36_s hw Z0 (cr_n0 hi (Nat.le_trans hl hc))) N0 pd_14 e0 5 (fun T1 _ X1 N1 e1 => ?_)
  refine g_iloadN C X1 d35_5 6 rfl ?_
  refine g_iloadN C X1 d35_6 7 rfl ?_
  refine g_isub C X1 d35_7 8 ?_
  refine g_istoreN C X1 d35_8 9 (w := (i1 - (0 : Int32))) rfl (ls' := #[rv o2, iv 0, iv i1, iv (i1 - (0 : Int32)), uu]) rfl ?_
  refine g_iloadN C X1 d35_9 10 rfl ?_
  refine g_newAE (aty := .byte) (n := (i1 - (0 : Int32))) C X1 (cap := 90) (w_16 hw) rfl e1 d35_10 12 (cr_n hi (Nat.le_trans hl hc)) (cr_cap hi (Nat.le_trans hl hc)) (by decide) (by decide) (by decide) (fun T2 h2 b2 ki2 X2 e2 g2 E2 A2 U2 => ?_)
  have f4 := F0.ext E2
  have gn_b2 : n0 ≤ b2 := Nat.le_trans Z0 (Nat.le_of_eq g2.symm)
  have Z2 := Nat.le_trans Z0 E2.1
  have sz_b2 : h0.size ≤ b2 := Nat.le_trans K00.1 (Nat.le_of_eq g2.symm)
  have K2 := K00.ext E2
  have f5 : Arv Z h2 b2 ki2 .byte (Int32.ofNat l1.length) [] (.int 0) := (cr_eq hi) ▸ A2
  refine g_astore C X2 d35_12 14 rfl (ls' := #[rv o2, iv 0, iv i1, iv (i1 - (0 : Int32)), rv b2]) rfl ?_
  refine g_aloadN C X2 d35_14 15 rfl rfl ?_
  refine g_iloadN C X2 d35_15 16 rfl ?_
  refine g_aload C X2 d35_16 18 rfl rfl ?_
  refine g_iconst C X2 d35_18 19 (v := 0) rfl ?_
  refine g_aloadN C X2 d35_19 20 rfl rfl ?_
  refine g_arraylength C X2 e2 f4 d35_20 21 ?_
  refine g_iloadN C X2 d35_21 22 rfl ?_
  refine g_isub C X2 d35_22 23 ?_
  refine g_iloadN C X2 d35_23 24 rfl ?_
  refine g_callS0 C X2 (b_3 hw) d35_24 [(.int ((Int32.ofNat c1) - (0 : Int32))), (.int (i1 - (0 : Int32)))] [(.int 0), (.ref b2), (.int 0), (.ref o2)] 4 (rm27 hw Z2) N1 pd_2 e2 27 (fun T6 _ X6 N6 e6 => ?_)
  have fb := f5.pad (pad_rep [] (.int 0) l1.length)
  refine g_acopy C X6 (w_151 hw) (w_104 hw) (w_102 hw) (w_103 hw) e6 f4 fb rfl (by decide) (by decide) (cr_h3 hi hl hc) (cr_h4 hi hl hc) (cr_h5 hi hl hc) rfl (cr_hl hi hl hc) rfl N6 gn_b2 rfl d35_27 30 (by decide) (W := 0) (Nat.le_of_eq rfl) (by decide) (fun T7 h7 L7 X7 e7 N7 Kq7 V7 => ?_)
  have f8 : Arv Z h7 b2 ki2 .byte (Int32.ofNat l1.length) (l1.map Value.int) (.int 0) := V7.pad (raw_copy rfl rfl (cr_ll hi hl hc))
  have K7 := K2.trans Kq7 (allS (Or.inr sz_b2) all0)
  refine g_aload C X7 d35_30 32 rfl rfl ?_
  exact g_retA C X7 K rfl rfl rfl d35_32 (by decide) (by decide) e7 ⟨b2, ki2, rfl, N7, sz_b2, K7, f8⟩
theorem ef_34rii (m : MethodId) (a1 : Addr) (a2 : Int32) (a3 : Int32) : entryFrame m #[(.ref a1), (.int a2), (.int a3)] 3 = mkF m 0 #[rv a1, iv a2, iv a3] [] := by first | (simp [entryFrame, mkF, argsToLocals, Value.category, iv, rv, jv, nv, uu, sd]; done) | rfl
theorem d34_0 : decode jdk_65_method_132_code 0 = .ok (.iload_n 1, 1) := by decide +kernel
theorem d34_1 : decode jdk_65_method_132_code 1 = .ok (.ifCond .ne 9, 3) := by decide +kernel
theorem d34_4 : decode jdk_65_method_132_code 4 = .ok (.iload_n 2, 1) := by decide +kernel
theorem d34_5 : decode jdk_65_method_132_code 5 = .ok (.aload_n 0, 1) := by decide +kernel
theorem d34_6 : decode jdk_65_method_132_code 6 = .ok (.arraylength, 1) := by decide +kernel
theorem d34_7 : decode jdk_65_method_132_code 7 = .ok (.if_icmp .eq 10, 3) := by decide +kernel
theorem d34_17 : decode jdk_65_method_132_code 17 = .ok (.aload_n 0, 1) := by decide +kernel
theorem d34_18 : decode jdk_65_method_132_code 18 = .ok (.invokevirtual 310, 3) := by decide +kernel
theorem w_260 {Z : State} {a0 : Array Value} (hw : ∀ d ∈ tables_1, d.before a0 Z = true) : Jvm.Cond.before (Jvm.Cond.methodLink "java/util/Arrays" (310 : Nat) ({ cls := "[B", name := "clone", desc := "()Ljava/lang/Object;" } : Jvm.MethodName)) a0 Z = true := hw _ (List.mem_of_getElem? (i := 260) rfl)
theorem w_261 {Z : State} {a0 : Array Value} (hw : ∀ d ∈ tables_1, d.before a0 Z = true) : Jvm.Cond.before (Jvm.Cond.sameMethod "[B" "java/lang/Object" "clone" "()Ljava/lang/Object;") a0 Z = true := hw _ (List.mem_of_getElem? (i := 261) rfl)
theorem w_265 {Z : State} {a0 : Array Value} (hw : ∀ d ∈ tables_1, d.before a0 Z = true) : Jvm.Cond.before (Jvm.Cond.native ({ cls := "java/lang/Object", name := "clone", desc := "()Ljava/lang/Object;" } : Jvm.MethodName)) a0 Z = true := hw _ (List.mem_of_getElem? (i := 265) rfl)
theorem w_263 {Z : State} {a0 : Array Value} (hw : ∀ d ∈ tables_1, d.before a0 Z = true) : Jvm.Cond.before (Jvm.Cond.instanceMethod ({ cls := "java/lang/Object", name := "clone", desc := "()Ljava/lang/Object;" } : Jvm.MethodName)) a0 Z = true := hw _ (List.mem_of_getElem? (i := 263) rfl)
theorem w_264 {Z : State} {a0 : Array Value} (hw : ∀ d ∈ tables_1, d.before a0 Z = true) : Jvm.Cond.before (Jvm.Cond.selects "[B" ({ cls := "[B", name := "clone", desc := "()Ljava/lang/Object;" } : Jvm.MethodName) ({ cls := "java/lang/Object", name := "clone", desc := "()Ljava/lang/Object;" } : Jvm.MethodName)) a0 Z = true := hw _ (List.mem_of_getElem? (i := 264) rfl)
theorem w_266 {Z : State} {a0 : Array Value} (hw : ∀ d ∈ tables_1, d.before a0 Z = true) : Jvm.Cond.before (Jvm.Cond.castable "[B" "java/lang/Cloneable") a0 Z = true := hw _ (List.mem_of_getElem? (i := 266) rfl)
theorem d34_21 : decode jdk_65_method_132_code 21 = .ok (.checkcast 311, 3) := by decide +kernel
theorem w_267 {Z : State} {a0 : Array Value} (hw : ∀ d ∈ tables_1, d.before a0 Z = true) : Jvm.Cond.before (Jvm.Cond.classLink "java/util/Arrays" (311 : Nat) "[B") a0 Z = true := hw _ (List.mem_of_getElem? (i := 267) rfl)
theorem w_268 {Z : State} {a0 : Array Value} (hw : ∀ d ∈ tables_1, d.before a0 Z = true) : Jvm.Cond.before (Jvm.Cond.castable "[B" "[B") a0 Z = true := hw _ (List.mem_of_getElem? (i := 268) rfl)
theorem d34_24 : decode jdk_65_method_132_code 24 = .ok (.areturn, 1) := by decide +kernel
theorem d34_10 : decode jdk_65_method_132_code 10 = .ok (.aload_n 0, 1) := by decide +kernel
theorem d34_11 : decode jdk_65_method_132_code 11 = .ok (.iload_n 1, 1) := by decide +kernel
theorem d34_12 : decode jdk_65_method_132_code 12 = .ok (.iload_n 2, 1) := by decide +kernel
theorem d34_13 : decode jdk_65_method_132_code 13 = .ok (.invokestatic 339, 3) := by decide +kernel
theorem w_184 {Z : State} {a0 : Array Value} (hw : ∀ d ∈ tables_1, d.before a0 Z = true) : Jvm.Cond.before (Jvm.Cond.code ({ cls := "java/util/Arrays", name := "copyOfRangeByte", desc := "([BII)[B" } : Jvm.MethodName) jdk_65_method_133_code (5 : Nat) (Option.some (Jvm.ClassFile.FieldType.array Jvm.ClassFile.FieldType.byte))) a0 Z = true := hw _ (List.mem_of_getElem? (i := 184) rfl)
theorem w_182 {Z : State} {a0 : Array Value} (hw : ∀ d ∈ tables_1, d.before a0 Z = true) : Jvm.Cond.before (Jvm.Cond.methodLink "java/util/Arrays" (339 : Nat) ({ cls := "java/util/Arrays", name := "copyOfRangeByte", desc := "([BII)[B" } : Jvm.MethodName)) a0 Z = true := hw _ (List.mem_of_getElem? (i := 182) rfl)
theorem pd_15 : parseMethodDescriptor "([BII)[B" = some ⟨[(.array .byte), .int, .int], some (.array .byte)⟩ := by decide +kernel
theorem w_183 {Z : State} {a0 : Array Value} (hw : ∀ d ∈ tables_1, d.before a0 Z = true) : Jvm.Cond.before (Jvm.Cond.static ({ cls := "java/util/Arrays", name := "copyOfRangeByte", desc := "([BII)[B" } : Jvm.MethodName)) a0 Z = true := hw _ (List.mem_of_getElem? (i := 183) rfl)
theorem d34_16 : decode jdk_65_method_132_code 16 = .ok (.areturn, 1) := by decide +kernel
def Q34_s (Z : State) (o2 : Addr) (i1 : Int32) (kd1 : ClassId) (c1 : Nat) (l1 : List Int32) (h0 : Heap) (n0 : Nat) (v : Option Value) (h : Heap) (L : List Loc) : Prop := ∃ (o3 : Addr) (kd3 : ClassId), v = some (.ref o3) ∧ Fr n0 L ∧ h0.size ≤ o3 ∧ Keep h0 h [] ∧ Arv Z h o3 kd3 .byte (Int32.ofNat l1.length) (l1.map Value.int) (.int 0)
abbrev y34 : MethodName := (⟨"java/util/Arrays", "copyOfRange", "([BII)[B"⟩ : MethodName)
theorem rm34_s {o2 : Addr} {i1 : Int32} {kd1 : ClassId} {c1 : Nat} {l1 : List Int32} (hw : OwnW a0 Z) (Z0 : n0 ≤ h0.size) (F0 : Arv Z h0 o2 kd1 .byte (Int32.ofNat c1) (l1.map Value.int) (.int 0)) (F1 : Exa Z h0 o2 "[B") (hi : Int32.ofNat l1.length = i1) (hl : l1.length ≤ c1) (hc : c1 ≤ 90) : OwnMF l Z y34 jdk_65_method_132_code 3 (some (.array .byte)) ws ⟨2, 1, 90, 34⟩ #[(.ref o2), (.int 0), (.int i1)] h0 (Q34_s Z o2 i1 kd1 c1 l1 h0 n0) := by
  refine bo (plainFor_of_name pn_26) ?_
  intro p e s m below meth c T0 G C hnm hnamed X0 e0 K
  have N0 := Fr.nil n0
  refine Goes.to (congrArg T0.setTop (ef_34rii m o2 (0 : Int32) i1)) ?_
  have K00 := Keep.refl h0 []
  refine g_iloadN C X0 d34_0 1 rfl ?_
  refine g_if_ne C X0 d34_1 10 4 (fun hc1 => absurd hc1 (by decide)) (fun hc1 => ?_)
  refine g_iloadN C X0 d34_4 5 rfl ?_
  refine g_aloadN C X0 d34_5 6 rfl rfl ?_
  refine g_arraylength C X0 e0 F0 d34_6 7 ?_
  refine g_icmp_eq C X0 d34_7 17 10 (fun hc7 => ?_) (fun hc7 => ?_)
  · refine g_aloadN C X0 d34_17 18 rfl rfl ?_
    refine g_clone C X0 (cap := 90) (W := 0) (w_260 hw) (w_261 hw) (w_265 hw) (w_263 hw) (w_264 hw) (w_266 hw) e0 F0 F1 d34_18 21 rfl (by decide) (Nat.le_of_eq rfl) (by decide) (cr_c hc) (by decide) (by decide) (fun T1 h1 b1 X1 e1 g1 E1 A1 U1 => ?_)
    have sz_b1 : h0.size ≤ b1 := Nat.le_trans K00.1 (Nat.le_of_eq g1.symm)
    have K1 := K00.ext E1
    have f5 : Arv Z h1 b1 kd1 .byte (Int32.ofNat l1.length) (l1.map Value.int) (.int 0) := (by rw [hi, hc7]; exact A1)
    refine g_castX C X1 (w_267 hw) (w_268 hw) e1 U1 d34_21 24 (fun T6 X6 e6 => ?_)
    exact g_retA C X6 K rfl rfl rfl d34_24 (by decide) (by decide) e6 ⟨b1, kd1, rfl, N0, sz_b1, K1, f5⟩
  · refine g_aloadN C X0 d34_10 11 rfl rfl ?_
    refine g_iloadN C X0 d34_11 12 rfl ?_
    refine g_iloadN C X0 d34_12 13 rfl ?_
    refine g_callS C X0 (w_182 hw) (w_183 hw) (w_146 hw) (w_184 hw) d34_13 [(.ref o2), (.int 0), (.int i1)] [] 0 (rm35_s hw Z0 F0 hi hl hc) pd_15 e0 16 (fun u7 T7 L7 X7 hQ7 => ?_)
    obtain ⟨o37, kd37, rfl, Nq7, szo37, Kq7, q7_0⟩ := hQ7
    have N7 := Fr.app N0 Nq7
    have sz_o37 : h0.size ≤ o37 := Nat.le_trans K00.1 szo37
    have K7 := K00.trans Kq7 all0
    refine ret1 ?_
    exact g_retA C X7 K rfl rfl rfl d34_16 (by decide) (by decide) rfl ⟨o37, kd37, rfl, N7, sz_o37, K7, q7_0⟩
theorem ef_31r (m : MethodId) (a1 : Addr) : entryFrame m #[(.ref a1)] 1 = mkF m 0 #[rv a1] [] := by first | (simp [entryFrame, mkF, argsToLocals, Value.category, iv, rv, jv, nv, uu, sd]; done) | rfl
theorem d31_0 : decode jdk_68_method_64_code 0 = .ok (.aload_n 0, 1) := by decide +kernel
theorem d31_1 : decode jdk_68_method_64_code 1 = .ok (.getfield 15, 3) := by decide +kernel
theorem d31_4 : decode jdk_68_method_64_code 4 = .ok (.areturn, 1) := by decide +kernel
abbrev y31 : MethodName := (⟨"java/lang/AbstractStringBuilder", "getValue", "()[B"⟩ : MethodName)
theorem rm31 {o1 o2 : Addr} (hw : OwnW a0 Z) (Z0 : n0 ≤ h0.size) (F0 : Fld Z h0 o1 "java/lang/AbstractStringBuilder" "value" "[B" (.ref o2)) : OwnMF l Z y31 jdk_68_method_64_code 1 (some (.array .byte)) ws ⟨0, 0, 0, 0⟩ #[(.ref o1)] h0 (OwnQ (some (.ref o2)) h0 n0) := by
  refine bo (plainFor_of_name pn_9) ?_
  intro p e s m below meth c T0 G C hnm hnamed X0 e0 K
  have N0 := Fr.nil n0
  refine Goes.to (congrArg T0.setTop (ef_31r m o1)) ?_
  refine g_aloadN C X0 d31_0 1 rfl rfl ?_
  refine g_getF C X0 (w_51 hw) Via.refl e0 F0 d31_1 4 (fun T1 X1 e1 => ?_)
  exact g_retA C X1 K rfl rfl rfl d31_4 (by decide) (by decide) e1 ⟨rfl, N0, rfl⟩
theorem ef_33r (m : MethodId) (a1 : Addr) : entryFrame m #[(.ref a1)] 1 = mkF m 0 #[rv a1] [] := by first | (simp [entryFrame, mkF, argsToLocals, Value.category, iv, rv, jv, nv, uu, sd]; done) | rfl
theorem d33_0 : decode jdk_68_method_6_code 0 = .ok (.aload_n 0, 1) := by decide +kernel
theorem d33_1 : decode jdk_68_method_6_code 1 = .ok (.getfield 79, 3) := by decide +kernel
theorem d33_4 : decode jdk_68_method_6_code 4 = .ok (.ireturn, 1) := by decide +kernel
abbrev y33 : MethodName := (⟨"java/lang/AbstractStringBuilder", "length", "()I"⟩ : MethodName)
theorem rm33 {o1 : Addr} {ct1 : Int32} (hw : OwnW a0 Z) (Z0 : n0 ≤ h0.size) (F0 : Fld Z h0 o1 "java/lang/AbstractStringBuilder" "count" "I" (.int ct1)) : OwnMF l Z y33 jdk_68_method_6_code 1 (some .int) ws ⟨0, 0, 0, 0⟩ #[(.ref o1)] h0 (OwnQ (some (.int ct1)) h0 n0) := by
  refine bo (plainFor_of_name pn_9) ?_
  intro p e s m below meth c T0 G C hnm hnamed X0 e0 K
  have N0 := Fr.nil n0
  refine Goes.to (congrArg T0.setTop (ef_33r m o1)) ?_
  refine g_aloadN C X0 d33_0 1 rfl rfl ?_
  refine g_getF C X0 (w_78 hw) Via.refl e0 F0 d33_1 4 (fun T1 X1 e1 => ?_)
  exact g_retI C X1 K d33_4 (by decide) (by decide) e1 ⟨rfl, N0, rfl⟩
theorem ef_32r (m : MethodId) (a1 : Addr) : entryFrame m #[(.ref a1)] 1 = mkF m 0 #[rv a1] [] := by first | (simp [entryFrame, mkF, argsToLocals, Value.category, iv, rv, jv, nv, uu, sd]; done) | rfl
theorem d32_0 : decode jdk_67_method_93_code 0 = .ok (.aload_n 0, 1) := by decide +kernel
theorem d32_1 : decode jdk_67_method_93_code 1 = .ok (.invokespecial 343, 3) := by decide +kernel
theorem w_177 {Z : State} {a0 : Array Value} (hw : ∀ d ∈ tables_1, d.before a0 Z = true) : Jvm.Cond.before (Jvm.Cond.code ({ cls := "java/lang/AbstractStringBuilder", name := "length", desc := "()I" } : Jvm.MethodName) jdk_68_method_6_code (1 : Nat) (Option.some Jvm.ClassFile.FieldType.int)) a0 Z = true := hw _ (List.mem_of_getElem? (i := 177) rfl)
theorem w_176 {Z : State} {a0 : Array Value} (hw : ∀ d ∈ tables_1, d.before a0 Z = true) : Jvm.Cond.before (Jvm.Cond.methodLink "java/lang/StringBuilder" (343 : Nat) ({ cls := "java/lang/AbstractStringBuilder", name := "length", desc := "()I" } : Jvm.MethodName)) a0 Z = true := hw _ (List.mem_of_getElem? (i := 176) rfl)
theorem w_171 {Z : State} {a0 : Array Value} (hw : ∀ d ∈ tables_1, d.before a0 Z = true) : Jvm.Cond.before (Jvm.Cond.declares ({ cls := "java/lang/AbstractStringBuilder", name := "length", desc := "()I" } : Jvm.MethodName)) a0 Z = true := hw _ (List.mem_of_getElem? (i := 171) rfl)
theorem w_172 {Z : State} {a0 : Array Value} (hw : ∀ d ∈ tables_1, d.before a0 Z = true) : Jvm.Cond.before (Jvm.Cond.instanceMethod ({ cls := "java/lang/AbstractStringBuilder", name := "length", desc := "()I" } : Jvm.MethodName)) a0 Z = true := hw _ (List.mem_of_getElem? (i := 172) rfl)
theorem d32_4 : decode jdk_67_method_93_code 4 = .ok (.ireturn, 1) := by decide +kernel
abbrev y32 : MethodName := (⟨"java/lang/StringBuilder", "length", "()I"⟩ : MethodName)
theorem rm32 {o1 : Addr} {ct1 : Int32} (hw : OwnW a0 Z) (Z0 : n0 ≤ h0.size) (F0 : Exa Z h0 o1 "java/lang/StringBuilder") (F1 : Fld Z h0 o1 "java/lang/AbstractStringBuilder" "count" "I" (.int ct1)) : OwnMF l Z y32 jdk_67_method_93_code 1 (some .int) ws ⟨1, 0, 0, 12⟩ #[(.ref o1)] h0 (OwnQ (some (.int ct1)) h0 n0) := by
  refine bo (plainFor_of_name pn_8) ?_
  intro p e s m below meth c T0 G C hnm hnamed X0 e0 K
  have N0 := Fr.nil n0
  refine Goes.to (congrArg T0.setTop (ef_32r m o1)) ?_
  refine g_aloadN C X0 d32_0 1 rfl rfl ?_
  refine g_callU C X0 (w_176 hw) (w_171 hw) (w_172 hw) (w_65 hw) (w_83 hw) rfl (w_177 hw) (w_47 hw) (by decide) F0 d32_1 [] [] 0 (rm33 hw Z0 F1) pd_8 e0 4 (fun u1 T1 L1 X1 hQ1 => ?_)
  obtain ⟨rfl, Nq1, eq1⟩ := hQ1
  have N1 := Fr.app N0 Nq1
  refine ret1 ?_
  exact g_retI C X1 K d32_4 (by decide) (by decide) eq1 ⟨rfl, N1, rfl⟩
theorem rm21 {o1 : Addr} {cs1 : Int32} (hw : OwnW a0 Z) (Z0 : n0 ≤ h0.size) (F0 : Fld Z h0 o1 "java/lang/AbstractStringBuilder" "coder" "B" (.int 0)) (F1 : OSc Z h0 cs1) (hcs : ¬ cs1 = (0 : Int32)) : OwnMF l Z y21 jdk_68_method_68_code 1 (some .boolean) ws ⟨0, 0, 0, 0⟩ #[(.ref o1)] h0 (OwnQ (some (.int 1)) h0 n0) := by
  refine bo (plainFor_of_name pn_9) ?_
  intro p e s m below meth c T0 G C hnm hnamed X0 e0 K
  have N0 := Fr.nil n0
  refine Goes.to (congrArg T0.setTop (ef_21r m o1)) ?_
  refine g_getS C X0 (w_50 hw) Via.refl e0 F1 d21_0 3 (fun T1 X1 e1 => ?_)
  refine g_if_eq C X1 d21_3 17 6 (fun hc3 => absurd hc3 hcs) (fun hc3 => ?_)
  refine g_aloadN C X1 d21_6 7 rfl rfl ?_
  refine g_getF C X1 (w_53 hw) Via.refl e1 F0 d21_7 10 (fun T2 X2 e2 => ?_)
  refine g_if_ne C X2 d21_10 17 13 (fun hc10 => absurd hc10 (by decide)) (fun hc10 => ?_)
  refine g_iconst C X2 d21_13 14 (v := 1) rfl ?_
  refine g_goto C X2 d21_14 18 ?_
  exact g_retN C X2 K (by simp) d21_18 (by decide) (by decide) e2 ⟨rfl, N0, rfl⟩
theorem ef_30rrn (m : MethodId) (a1 : Addr) (a2 : Addr) : entryFrame m #[(.ref a1), (.ref a2), .null] 5 = mkF m 0 #[rv a1, rv a2, nv, uu, uu] [] := by first | (simp [entryFrame, mkF, argsToLocals, Value.category, iv, rv, jv, nv, uu, sd]; done) | rfl
theorem d30_0 : decode jdk_42_method_150_code 0 = .ok (.aload_n 0, 1) := by decide +kernel
theorem d30_1 : decode jdk_42_method_150_code 1 = .ok (.invokespecial 1, 3) := by decide +kernel
theorem w_21 {Z : State} {a0 : Array Value} (hw : ∀ d ∈ tables_1, d.before a0 Z = true) : Jvm.Cond.before (Jvm.Cond.methodLink "java/lang/String" (1 : Nat) ({ cls := "java/lang/Object", name := "<init>", desc := "()V" } : Jvm.MethodName)) a0 Z = true := hw _ (List.mem_of_getElem? (i := 21) rfl)
theorem d30_4 : decode jdk_42_method_150_code 4 = .ok (.aload_n 1, 1) := by decide +kernel
theorem d30_5 : decode jdk_42_method_150_code 5 = .ok (.invokevirtual 552, 3) := by decide +kernel
theorem w_169 {Z : State} {a0 : Array Value} (hw : ∀ d ∈ tables_1, d.before a0 Z = true) : Jvm.Cond.before (Jvm.Cond.code ({ cls := "java/lang/AbstractStringBuilder", name := "getValue", desc := "()[B" } : Jvm.MethodName) jdk_68_method_64_code (1 : Nat) (Option.some (Jvm.ClassFile.FieldType.array Jvm.ClassFile.FieldType.byte))) a0 Z = true := hw _ (List.mem_of_getElem? (i := 169) rfl)
theorem w_165 {Z : State} {a0 : Array Value} (hw : ∀ d ∈ tables_1, d.before a0 Z = true) : Jvm.Cond.before (Jvm.Cond.methodLink "java/lang/String" (552 : Nat) ({ cls := "java/lang/AbstractStringBuilder", name := "getValue", desc := "()[B" } : Jvm.MethodName)) a0 Z = true := hw _ (List.mem_of_getElem? (i := 165) rfl)
theorem pd_16 : parseMethodDescriptor "()[B" = some ⟨[], some (.array .byte)⟩ := by decide +kernel
theorem w_166 {Z : State} {a0 : Array Value} (hw : ∀ d ∈ tables_1, d.before a0 Z = true) : Jvm.Cond.before (Jvm.Cond.declares ({ cls := "java/lang/AbstractStringBuilder", name := "getValue", desc := "()[B" } : Jvm.MethodName)) a0 Z = true := hw _ (List.mem_of_getElem? (i := 166) rfl)
theorem w_168 {Z : State} {a0 : Array Value} (hw : ∀ d ∈ tables_1, d.before a0 Z = true) : Jvm.Cond.before (Jvm.Cond.selects "java/lang/StringBuilder" ({ cls := "java/lang/AbstractStringBuilder", name := "getValue", desc := "()[B" } : Jvm.MethodName) ({ cls := "java/lang/AbstractStringBuilder", name := "getValue", desc := "()[B" } : Jvm.MethodName)) a0 Z = true := hw _ (List.mem_of_getElem? (i := 168) rfl)
theorem w_167 {Z : State} {a0 : Array Value} (hw : ∀ d ∈ tables_1, d.before a0 Z = true) : Jvm.Cond.before (Jvm.Cond.instanceMethod ({ cls := "java/lang/AbstractStringBuilder", name := "getValue", desc := "()[B" } : Jvm.MethodName)) a0 Z = true := hw _ (List.mem_of_getElem? (i := 167) rfl)
theorem b_11 (hw : OwnW a0 Z) : CallV "java/lang/String" 552 (⟨"java/lang/AbstractStringBuilder", "getValue", "()[B"⟩ : MethodName) "java/lang/StringBuilder" jdk_68_method_64_code (1 : Nat) (Option.some (Jvm.ClassFile.FieldType.array Jvm.ClassFile.FieldType.byte)) a0 Z := ⟨(w_165 hw), (w_166 hw), (w_168 hw), (w_167 hw), (w_169 hw), (w_47 hw)⟩
theorem d30_8 : decode jdk_42_method_150_code 8 = .ok (.astore_n 3, 1) := by decide +kernel
theorem d30_9 : decode jdk_42_method_150_code 9 = .ok (.aload_n 1, 1) := by decide +kernel
theorem d30_10 : decode jdk_42_method_150_code 10 = .ok (.invokevirtual 549, 3) := by decide +kernel
theorem w_175 {Z : State} {a0 : Array Value} (hw : ∀ d ∈ tables_1, d.before a0 Z = true) : Jvm.Cond.before (Jvm.Cond.code ({ cls := "java/lang/StringBuilder", name := "length", desc := "()I" } : Jvm.MethodName) jdk_67_method_93_code (1 : Nat) (Option.some Jvm.ClassFile.FieldType.int)) a0 Z = true := hw _ (List.mem_of_getElem? (i := 175) rfl)
theorem w_39 {Z : State} {a0 : Array Value} (hw : ∀ d ∈ tables_1, d.before a0 Z = true) : Jvm.Cond.before (Jvm.Cond.initialized "java/lang/StringBuilder") a0 Z = true := hw _ (List.mem_of_getElem? (i := 39) rfl)
theorem w_170 {Z : State} {a0 : Array Value} (hw : ∀ d ∈ tables_1, d.before a0 Z = true) : Jvm.Cond.before (Jvm.Cond.methodLink "java/lang/String" (549 : Nat) ({ cls := "java/lang/AbstractStringBuilder", name := "length", desc := "()I" } : Jvm.MethodName)) a0 Z = true := hw _ (List.mem_of_getElem? (i := 170) rfl)
theorem w_173 {Z : State} {a0 : Array Value} (hw : ∀ d ∈ tables_1, d.before a0 Z = true) : Jvm.Cond.before (Jvm.Cond.selects "java/lang/StringBuilder" ({ cls := "java/lang/AbstractStringBuilder", name := "length", desc := "()I" } : Jvm.MethodName) ({ cls := "java/lang/StringBuilder", name := "length", desc := "()I" } : Jvm.MethodName)) a0 Z = true := hw _ (List.mem_of_getElem? (i := 173) rfl)
theorem w_174 {Z : State} {a0 : Array Value} (hw : ∀ d ∈ tables_1, d.before a0 Z = true) : Jvm.Cond.before (Jvm.Cond.instanceMethod ({ cls := "java/lang/StringBuilder", name := "length", desc := "()I" } : Jvm.MethodName)) a0 Z = true := hw _ (List.mem_of_getElem? (i := 174) rfl)
theorem d30_13 : decode jdk_42_method_150_code 13 = .ok (.istore 4, 2) := by decide +kernel
theorem d30_15 : decode jdk_42_method_150_code 15 = .ok (.aload_n 1, 1) := by decide +kernel
theorem d30_16 : decode jdk_42_method_150_code 16 = .ok (.invokevirtual 1047, 3) := by decide +kernel
theorem w_178 {Z : State} {a0 : Array Value} (hw : ∀ d ∈ tables_1, d.before a0 Z = true) : Jvm.Cond.before (Jvm.Cond.methodLink "java/lang/String" (1047 : Nat) ({ cls := "java/lang/AbstractStringBuilder", name := "isLatin1", desc := "()Z" } : Jvm.MethodName)) a0 Z = true := hw _ (List.mem_of_getElem? (i := 178) rfl)
theorem b_12 (hw : OwnW a0 Z) : CallV "java/lang/String" 1047 (⟨"java/lang/AbstractStringBuilder", "isLatin1", "()Z"⟩ : MethodName) "java/lang/StringBuilder" jdk_68_method_68_code (1 : Nat) (Option.some Jvm.ClassFile.FieldType.boolean) a0 Z := ⟨(w_178 hw), (w_119 hw), (w_121 hw), (w_120 hw), (w_122 hw), (w_47 hw)⟩
theorem d30_19 : decode jdk_42_method_150_code 19 = .ok (.ifCond .eq 22, 3) := by decide +kernel
theorem d30_22 : decode jdk_42_method_150_code 22 = .ok (.aload_n 0, 1) := by decide +kernel
theorem d30_23 : decode jdk_42_method_150_code 23 = .ok (.iconst 0, 1) := by decide +kernel
theorem d30_24 : decode jdk_42_method_150_code 24 = .ok (.putfield 15, 3) := by decide +kernel
theorem w_27 {Z : State} {a0 : Array Value} (hw : ∀ d ∈ tables_1, d.before a0 Z = true) : Jvm.Cond.before (Jvm.Cond.laysFinal "java/lang/String" "java/lang/String" "coder" "B") a0 Z = true := hw _ (List.mem_of_getElem? (i := 27) rfl)
theorem w_12 {Z : State} {a0 : Array Value} (hw : ∀ d ∈ tables_1, d.before a0 Z = true) : Jvm.Cond.before (Jvm.Cond.instantiable "java/lang/String" (4 : Nat)) a0 Z = true := hw _ (List.mem_of_getElem? (i := 12) rfl)
theorem w_25 {Z : State} {a0 : Array Value} (hw : ∀ d ∈ tables_1, d.before a0 Z = true) : Jvm.Cond.before (Jvm.Cond.laysFinal "java/lang/String" "java/lang/String" "value" "[B") a0 Z = true := hw _ (List.mem_of_getElem? (i := 25) rfl)
theorem d30_27 : decode jdk_42_method_150_code 27 = .ok (.aload_n 0, 1) := by decide +kernel
theorem d30_28 : decode jdk_42_method_150_code 28 = .ok (.aload_n 3, 1) := by decide +kernel
theorem d30_29 : decode jdk_42_method_150_code 29 = .ok (.iconst 0, 1) := by decide +kernel
theorem d30_30 : decode jdk_42_method_150_code 30 = .ok (.iload 4, 2) := by decide +kernel
theorem d30_32 : decode jdk_42_method_150_code 32 = .ok (.invokestatic 54, 3) := by decide +kernel
theorem w_181 {Z : State} {a0 : Array Value} (hw : ∀ d ∈ tables_1, d.before a0 Z = true) : Jvm.Cond.before (Jvm.Cond.code ({ cls := "java/util/Arrays", name := "copyOfRange", desc := "([BII)[B" } : Jvm.MethodName) jdk_65_method_132_code (3 : Nat) (Option.some (Jvm.ClassFile.FieldType.array Jvm.ClassFile.FieldType.byte))) a0 Z = true := hw _ (List.mem_of_getElem? (i := 181) rfl)
theorem w_179 {Z : State} {a0 : Array Value} (hw : ∀ d ∈ tables_1, d.before a0 Z = true) : Jvm.Cond.before (Jvm.Cond.methodLink "java/lang/String" (54 : Nat) ({ cls := "java/util/Arrays", name := "copyOfRange", desc := "([BII)[B" } : Jvm.MethodName)) a0 Z = true := hw _ (List.mem_of_getElem? (i := 179) rfl)
theorem w_180 {Z : State} {a0 : Array Value} (hw : ∀ d ∈ tables_1, d.before a0 Z = true) : Jvm.Cond.before (Jvm.Cond.static ({ cls := "java/util/Arrays", name := "copyOfRange", desc := "([BII)[B" } : Jvm.MethodName)) a0 Z = true := hw _ (List.mem_of_getElem? (i := 180) rfl)
theorem d30_35 : decode jdk_42_method_150_code 35 = .ok (.putfield 9, 3) := by decide +kernel
theorem d30_38 : decode jdk_42_method_150_code 38 = .ok (.goto 59, 3) := by decide +kernel
theorem d30_97 : decode jdk_42_method_150_code 97 = .ok (.return_, 1) := by decide +kernel
def Q30 (Z : State) (o9 : Addr) (o1 : Addr) (o2 : Addr) (kd1 : ClassId) (c1 : Nat) (l1 : List Int32) (cs1 : Int32) (h0 : Heap) (n0 : Nat) (v : Option Value) (h : Heap) (L : List Loc) : Prop := ∃ (o3 : Addr) (kd3 : ClassId), v = none ∧ Fr n0 L ∧ h0.size ≤ o3 ∧ Keep h0 h [o9] ∧ OEs Z h o9 ∧ OFv Z h o9 (.ref o3) ∧ OFc Z h o9 ∧ Arv Z h o3 kd3 .byte (Int32.ofNat l1.length) (l1.map Value.int) (.int 0)
abbrev y30 : MethodName := (⟨"java/lang/String", "<init>", "(Ljava/lang/AbstractStringBuilder;Ljava/lang/Void;)V"⟩ : MethodName)
theorem rm30 {o9 o1 o2 : Addr} {kd1 : ClassId} {c1 : Nat} {l1 : List Int32} {cs1 : Int32} (hw : OwnW a0 Z) (Z0 : n0 ≤ h0.size) (F0 : OEs Z h0 o9) (F1 : OFv Z h0 o9 .null) (F2 : OFc Z h0 o9) (F3 : Exa Z h0 o1 "java/lang/StringBuilder") (F4 : Fld Z h0 o1 "java/lang/AbstractStringBuilder" "value" "[B" (.ref o2)) (F5 : Fld Z h0 o1 "java/lang/AbstractStringBuilder" "coder" "B" (.int 0)) (F6 : Fld Z h0 o1 "java/lang/AbstractStringBuilder" "count" "I" (.int (Int32.ofNat l1.length))) (F7 : Arv Z h0 o2 kd1 .byte (Int32.ofNat c1) (l1.map Value.int) (.int 0)) (F8 : Exa Z h0 o2 "[B") (F9 : OSc Z h0 cs1) (gn_o9 : n0 ≤ o9) (hcs : ¬ cs1 = (0 : Int32)) (hl : l1.length ≤ c1) (hc : c1 ≤ 90) (ne_o1_o9 : o1 ≠ o9) (ne_o2_o9 : o2 ≠ o9) (ne_o1_o2 : o1 ≠ o2) : OwnMF l Z y30 jdk_42_method_150_code 5 none ws ⟨3, 1, 90, 49⟩ #[(.ref o9), (.ref o1), .null] h0 (Q30 Z o9 o1 o2 kd1 c1 l1 cs1 h0 n0) := by
  refine bo (plainFor_of_name pn_1) ?_
  intro p e s m below meth c T0 G C hnm hnamed X0 e0 K
  have N0 := Fr.nil n0
  refine Goes.to (congrArg T0.setTop (ef_30rrn m o9 o1)) ?_
  have K00 := Keep.refl h0 [o9]
  refine g_aloadN C X0 d30_0 1 rfl rfl ?_
  refine g_initO C X0 (w_21 hw) (w_22 hw) (w_23 hw) e0 rfl d30_1 4 (by decide) (W := 0) (Nat.le_of_eq rfl) (by decide) (fun T1 X1 e1 => ?_)
  refine g_aloadN C X1 d30_4 5 rfl rfl ?_
  refine g_callV0 C X1 (b_11 hw) F3 d30_5 [] [] 0 (rm31 hw Z0 F4) N0 pd_16 e1 8 (fun T2 _ X2 N2 e2 => ?_)
  refine g_astoreN C X2 d30_8 9 rfl (ls' := #[rv o9, rv o1, nv, rv o2, uu]) rfl ?_
  refine g_aloadN C X2 d30_9 10 rfl rfl ?_
  refine g_callV C X2 (w_170 hw) (w_171 hw) (notFace_via (mvT C.2.1 (w_83 hw)) rfl) (w_173 hw) (w_174 hw) (w_175 hw) (w_39 hw) F3 d30_10 [] [] 0 (rm32 hw Z0 F3 F6) pd_8 e2 13 (fun u3 T3 L3 X3 hQ3 => ?_)
  obtain ⟨rfl, Nq3, eq3⟩ := hQ3
  have N3 := Fr.app N2 Nq3
  refine ret1 ?_
  refine g_istore C X3 d30_13 15 (w := (Int32.ofNat l1.length)) rfl (ls' := #[rv o9, rv o1, nv, rv o2, iv (Int32.ofNat l1.length)]) rfl ?_
  refine g_aloadN C X3 d30_15 16 rfl rfl ?_
  refine g_callV0 C X3 (b_12 hw) F3 d30_16 [] [] 0 (rm21 hw Z0 F5 F9 hcs) N3 pd_11 eq3 19 (fun T4 _ X4 N4 e4 => ?_)
  refine g_if_eq C X4 d30_19 41 22 (fun hc19 => absurd hc19 (by decide)) (fun hc19 => ?_)
  refine g_aloadN C X4 d30_22 23 rfl rfl ?_
  refine g_iconst C X4 d30_23 24 (v := 0) rfl ?_
  refine g_putFN C X4 (w_26 hw) Via.refl e4 F2 F0 (Or.inr ⟨(w_27 hw), rfl, hnm⟩) (w_12 hw) (ty := .byte) (by decide) (v' := (.int 0)) (by decide) (by decide) d30_24 27 (fun T5 h5 X5 e5 W5 => ?_)
  have f6 := F0.wr W5
  have f7 := F1.other W5 (Or.inr (slot_ne (Or.inr (w_25 hw)) (Or.inr (w_27 hw)) (by decide) (t := (.array .byte)) (t' := .byte) (by decide) (by decide)))
  have f8 := F2.same W5
  have f13 := F7.other W5 ne_o2_o9
  have f14 := F8.wr W5
  have N5 := Fr.snoc X5 N4 gn_o9
  have Z5 := Nat.le_trans Z0 (Nat.le_of_eq W5.size.symm)
  have K5 := K00.wr W5 (Or.inl (List.mem_of_getElem? (i := 0) rfl))
  refine g_aloadN C X5 d30_27 28 rfl rfl ?_
  refine g_aloadN C X5 d30_28 29 rfl rfl ?_
  refine g_iconst C X5 d30_29 30 (v := 0) rfl ?_
  refine g_iload C X5 d30_30 32 rfl ?_
  refine g_callS C X5 (w_179 hw) (w_180 hw) (w_146 hw) (w_181 hw) d30_32 [(.ref o2), (.int 0), (.int (Int32.ofNat l1.length))] [(.ref o9)] 1 (rm34_s hw Z5 f13 f14 rfl hl hc) pd_15 e5 35 (fun u16 T16 L16 X16 hQ16 => ?_)
  obtain ⟨o316, kd316, rfl, Nq16, szo316, Kq16, q16_0⟩ := hQ16
  have N16 := Fr.app N5 Nq16
  have n19 : o9 ≠ o316 := Nat.ne_of_lt (Nat.lt_of_lt_of_le f6.lt szo316)
  have f20 := f6.keep Kq16
  have f21 := f7.keep Kq16 nin0
  have f22 := f8.keep Kq16 nin0
  have sz_o316 : h0.size ≤ o316 := Nat.le_trans K5.1 szo316
  have K16 := K5.trans Kq16 all0
  refine ret1 ?_
  refine g_putF C X16 (w_24 hw) Via.refl rfl f21 f20 (Or.inr ⟨(w_25 hw), rfl, hnm⟩) (w_12 hw) (ty := (.array .byte)) (by decide) rfl rfl d30_35 38 (fun T30 h30 X30 e30 W30 => ?_)
  have f31 := f20.wr W30
  have f32 := f21.same W30
  have f33 := f22.other W30 (Or.inr (slot_ne (Or.inr (w_27 hw)) (Or.inr (w_25 hw)) (by decide) (t := .byte) (t' := (.array .byte)) (by decide) (by decide)))
  have f41 := q16_0.other W30 (Ne.symm n19)
  have N30 := Fr.snoc X30 N16 gn_o9
  have K30 := K16.wr W30 (Or.inl (List.mem_of_getElem? (i := 0) rfl))
  refine g_goto C X30 d30_38 97 ?_
  exact g_retV C X30 K d30_97 (by decide) (by decide) e30 ⟨o316, kd316, rfl, N30, sz_o316, K30, f31, f32, f33, f41⟩
theorem ef_29rr (m : MethodId) (a1 : Addr) (a2 : Addr) : entryFrame m #[(.ref a1), (.ref a2)] 2 = mkF m 0 #[rv a1, rv a2] [] := by first | (simp [entryFrame, mkF, argsToLocals, Value.category, iv, rv, jv, nv, uu, sd]; done) | rfl
theorem d29_0 : decode jdk_42_method_53_code 0 = .ok (.aload_n 0, 1) := by decide +kernel
theorem d29_1 : decode jdk_42_method_53_code 1 = .ok (.aload_n 1, 1) := by decide +kernel
theorem d29_2 : decode jdk_42_method_53_code 2 = .ok (.aconst_null, 1) := by decide +kernel
theorem d29_3 : decode jdk_42_method_53_code 3 = .ok (.invokespecial 489, 3) := by decide +kernel
theorem w_164 {Z : State} {a0 : Array Value} (hw : ∀ d ∈ tables_1, d.before a0 Z = true) : Jvm.Cond.before (Jvm.Cond.code ({ cls := "java/lang/String", name := "<init>", desc := "(Ljava/lang/AbstractStringBuilder;Ljava/lang/Void;)V" } : Jvm.MethodName) jdk_42_method_150_code (5 : Nat) (Option.none : Option Jvm.ClassFile.FieldType)) a0 Z = true := hw _ (List.mem_of_getElem? (i := 164) rfl)
theorem w_162 {Z : State} {a0 : Array Value} (hw : ∀ d ∈ tables_1, d.before a0 Z = true) : Jvm.Cond.before (Jvm.Cond.methodLink "java/lang/String" (489 : Nat) ({ cls := "java/lang/String", name := "<init>", desc := "(Ljava/lang/AbstractStringBuilder;Ljava/lang/Void;)V" } : Jvm.MethodName)) a0 Z = true := hw _ (List.mem_of_getElem? (i := 162) rfl)
theorem pd_17 : parseMethodDescriptor "(Ljava/lang/AbstractStringBuilder;Ljava/lang/Void;)V" = some ⟨[(.object "java/lang/AbstractStringBuilder"), (.object "java/lang/Void")], none⟩ := by decide +kernel
theorem w_163 {Z : State} {a0 : Array Value} (hw : ∀ d ∈ tables_1, d.before a0 Z = true) : Jvm.Cond.before (Jvm.Cond.instanceMethod ({ cls := "java/lang/String", name := "<init>", desc := "(Ljava/lang/AbstractStringBuilder;Ljava/lang/Void;)V" } : Jvm.MethodName)) a0 Z = true := hw _ (List.mem_of_getElem? (i := 163) rfl)
theorem d29_6 : decode jdk_42_method_53_code 6 = .ok (.return_, 1) := by decide +kernel
def Q29 (Z : State) (o9 : Addr) (o1 : Addr) (o2 : Addr) (kd1 : ClassId) (c1 : Nat) (l1 : List Int32) (cs1 : Int32) (h0 : Heap) (n0 : Nat) (v : Option Value) (h : Heap) (L : List Loc) : Prop := ∃ (o3 : Addr) (kd3 : ClassId), v = none ∧ Fr n0 L ∧ h0.size ≤ o3 ∧ Keep h0 h [o9] ∧ OEs Z h o9 ∧ OFv Z h o9 (.ref o3) ∧ OFc Z h o9 ∧ Arv Z h o3 kd3 .byte (Int32.ofNat l1.length) (l1.map Value.int) (.int 0)
abbrev y29 : MethodName := (⟨"java/lang/String", "<init>", "(Ljava/lang/StringBuilder;)V"⟩ : MethodName)
theorem rm29 {o9 o1 o2 : Addr} {kd1 : ClassId} {c1 : Nat} {l1 : List Int32} {cs1 : Int32} (hw : OwnW a0 Z) (Z0 : n0 ≤ h0.size) (F0 : OEs Z h0 o9) (F1 : OFv Z h0 o9 .null) (F2 : OFc Z h0 o9) (F3 : Exa Z h0 o1 "java/lang/StringBuilder") (F4 : Fld Z h0 o1 "java/lang/AbstractStringBuilder" "value" "[B" (.ref o2)) (F5 : Fld Z h0 o1 "java/lang/AbstractStringBuilder" "coder" "B" (.int 0)) (F6 : Fld Z h0 o1 "java/lang/AbstractStringBuilder" "count" "I" (.int (Int32.ofNat l1.length))) (F7 : Arv Z h0 o2 kd1 .byte (Int32.ofNat c1) (l1.map Value.int) (.int 0)) (F8 : Exa Z h0 o2 "[B") (F9 : OSc Z h0 cs1) (gn_o9 : n0 ≤ o9) (hcs : ¬ cs1 = (0 : Int32)) (hl : l1.length ≤ c1) (hc : c1 ≤ 90) (ne_o1_o9 : o1 ≠ o9) (ne_o2_o9 : o2 ≠ o9) (ne_o1_o2 : o1 ≠ o2) : OwnMF l Z y29 jdk_42_method_53_code 2 none ws ⟨4, 1, 90, 65⟩ #[(.ref o9), (.ref o1)] h0 (Q29 Z o9 o1 o2 kd1 c1 l1 cs1 h0 n0) := by
  refine bo (plainFor_of_name pn_1) ?_
  intro p e s m below meth c T0 G C hnm hnamed X0 e0 K
  have N0 := Fr.nil n0
  refine Goes.to (congrArg T0.setTop (ef_29rr m o9 o1)) ?_
  have K00 := Keep.refl h0 [o9]
  refine g_aloadN C X0 d29_0 1 rfl rfl ?_
  refine g_aloadN C X0 d29_1 2 rfl rfl ?_
  refine g_aconstNull C X0 d29_2 3 ?_
  refine g_callI C X0 rfl (w_162 hw) (w_163 hw) (w_4 hw) (w_164 hw) d29_3 [(.ref o1), .null] [] 0 (rm30 hw Z0 F0 F1 F2 F3 F4 F5 F6 F7 F8 F9 gn_o9 hcs hl hc ne_o1_o9 ne_o2_o9 ne_o1_o2) pd_17 e0 6 (fun u1 T1 L1 X1 hQ1 => ?_)
  obtain ⟨o31, kd31, rfl, Nq1, szo31, Kq1, q1_0, q1_1, q1_2, q1_3⟩ := hQ1
  have N1 := Fr.app N0 Nq1
  have sz_o31 : h0.size ≤ o31 := Nat.le_trans K00.1 szo31
  have K1 := K00.trans Kq1 (allS (Or.inl (List.mem_of_getElem? (i := 0) rfl)) all0)
  refine ret0 ?_
  exact g_retV C X1 K d29_6 (by decide) (by decide) rfl ⟨o31, kd31, rfl, N1, sz_o31, K1, q1_0, q1_1, q1_2, q1_3⟩
theorem ef_28r (m : MethodId) (a1 : Addr) : entryFrame m #[(.ref a1)] 1 = mkF m 0 #[rv a1] [] := by first | (simp [entryFrame, mkF, argsToLocals, Value.category, iv, rv, jv, nv, uu, sd]; done) | rfl
theorem d28_0 : decode jdk_67_method_42_code 0 = .ok (.new 18, 3) := by decide +kernel
theorem w_158 {Z : State} {a0 : Array Value} (hw : ∀ d ∈ tables_1, d.before a0 Z = true) : Jvm.Cond.before (Jvm.Cond.classLink "java/lang/StringBuilder" (18 : Nat) "java/lang/String") a0 Z = true := hw _ (List.mem_of_getElem? (i := 158) rfl)
theorem d28_3 : decode jdk_67_method_42_code 3 = .ok (.dup, 1) := by decide +kernel
theorem d28_4 : decode jdk_67_method_42_code 4 = .ok (.aload_n 0, 1) := by decide +kernel
theorem d28_5 : decode jdk_67_method_42_code 5 = .ok (.invokespecial 137, 3) := by decide +kernel
theorem w_161 {Z : State} {a0 : Array Value} (hw : ∀ d ∈ tables_1, d.before a0 Z = true) : Jvm.Cond.before (Jvm.Cond.code ({ cls := "java/lang/String", name := "<init>", desc := "(Ljava/lang/StringBuilder;)V" } : Jvm.MethodName) jdk_42_method_53_code (2 : Nat) (Option.none : Option Jvm.ClassFile.FieldType)) a0 Z = true := hw _ (List.mem_of_getElem? (i := 161) rfl)
theorem w_159 {Z : State} {a0 : Array Value} (hw : ∀ d ∈ tables_1, d.before a0 Z = true) : Jvm.Cond.before (Jvm.Cond.methodLink "java/lang/StringBuilder" (137 : Nat) ({ cls := "java/lang/String", name := "<init>", desc := "(Ljava/lang/StringBuilder;)V" } : Jvm.MethodName)) a0 Z = true := hw _ (List.mem_of_getElem? (i := 159) rfl)
theorem pd_18 : parseMethodDescriptor "(Ljava/lang/StringBuilder;)V" = some ⟨[(.object "java/lang/StringBuilder")], none⟩ := by decide +kernel
theorem w_160 {Z : State} {a0 : Array Value} (hw : ∀ d ∈ tables_1, d.before a0 Z = true) : Jvm.Cond.before (Jvm.Cond.instanceMethod ({ cls := "java/lang/String", name := "<init>", desc := "(Ljava/lang/StringBuilder;)V" } : Jvm.MethodName)) a0 Z = true := hw _ (List.mem_of_getElem? (i := 160) rfl)
theorem d28_8 : decode jdk_67_method_42_code 8 = .ok (.areturn, 1) := by decide +kernel
def Q28 (Z : State) (o1 : Addr) (o2 : Addr) (kd1 : ClassId) (c1 : Nat) (l1 : List Int32) (cs1 : Int32) (h0 : Heap) (n0 : Nat) (v : Option Value) (h : Heap) (L : List Loc) : Prop := ∃ (o4 : Addr) (o3 : Addr) (kd3 : ClassId), v = some (.ref o4) ∧ Fr n0 L ∧ h0.size ≤ o4 ∧ h0.size ≤ o3 ∧ Keep h0 h [] ∧ OEs Z h o4 ∧ OFv Z h o4 (.ref o3) ∧ OFc Z h o4 ∧ Arv Z h o3 kd3 .byte (Int32.ofNat l1.length) (l1.map Value.int) (.int 0)
abbrev y28 : MethodName := (⟨"java/lang/StringBuilder", "toString", "()Ljava/lang/String;"⟩ : MethodName)
theorem rm28 {o1 o2 : Addr} {kd1 : ClassId} {c1 : Nat} {l1 : List Int32} {cs1 : Int32} (hw : OwnW a0 Z) (Z0 : n0 ≤ h0.size) (F0 : Exa Z h0 o1 "java/lang/StringBuilder") (F1 : Fld Z h0 o1 "java/lang/AbstractStringBuilder" "value" "[B" (.ref o2)) (F2 : Fld Z h0 o1 "java/lang/AbstractStringBuilder" "coder" "B" (.int 0)) (F3 : Fld Z h0 o1 "java/lang/AbstractStringBuilder" "count" "I" (.int (Int32.ofNat l1.length))) (F4 : Arv Z h0 o2 kd1 .byte (Int32.ofNat c1) (l1.map Value.int) (.int 0)) (F5 : Exa Z h0 o2 "[B") (F6 : OSc Z h0 cs1) (hcs : ¬ cs1 = (0 : Int32)) (hl : l1.length ≤ c1) (hc : c1 ≤ 90) (ne_o1_o2 : o1 ≠ o2) : OwnMF l Z y28 jdk_67_method_42_code 1 (some (.object "java/lang/String")) ws ⟨5, 2, 94, 79⟩ #[(.ref o1)] h0 (Q28 Z o1 o2 kd1 c1 l1 cs1 h0 n0) := by
  refine bo (plainFor_of_name pn_8) ?_
  intro p e s m below meth c T0 G C hnm hnamed X0 e0 K
  have N0 := Fr.nil n0
  refine Goes.to (congrArg T0.setTop (ef_28r m o1)) ?_
  have K00 := Keep.refl h0 []
  refine g_new C X0 (w_158 hw) (w_12 hw) (w_4 hw) e0 d28_0 3 (by decide) (by decide) (fun T1 h1 b1 X1 e1 g1 E1 A1 D1 => ?_)
  have n2 : o1 ≠ b1 := Nat.ne_of_lt (Nat.lt_of_lt_of_eq F0.lt g1.symm)
  have n3 : o2 ≠ b1 := Nat.ne_of_lt (Nat.lt_of_lt_of_eq F4.lt g1.symm)
  have f4 := F0.ext E1
  have f5 := F1.ext E1
  have f6 := F2.ext E1
  have f7 := F3.ext E1
  have f8 := F4.ext E1
  have f9 := F5.ext E1
  have f10 := F6.ext E1
  have gn_b1 : n0 ≤ b1 := Nat.le_trans Z0 (Nat.le_of_eq g1.symm)
  have Z1 := Nat.le_trans Z0 E1.1
  have sz_b1 : h0.size ≤ b1 := Nat.le_trans K00.1 (Nat.le_of_eq g1.symm)
  have K1 := K00.ext E1
  have f11 : OFv Z h1 b1 .null := D1 (Or.inr (w_25 hw)) (ty := (.array .byte)) (by decide)
  have f12 : OFc Z h1 b1 := D1 (Or.inr (w_27 hw)) (ty := .byte) (by decide)
  refine g_dup C X1 d28_3 4 rfl ?_
  refine g_aloadN C X1 d28_4 5 rfl rfl ?_
  refine g_callI C X1 rfl (w_159 hw) (w_160 hw) (w_4 hw) (w_161 hw) d28_5 [(.ref o1)] [(.ref b1)] 1 (rm29 hw Z1 A1 f11 f12 f4 f5 f6 f7 f8 f9 f10 gn_b1 hcs hl hc n2 n3 ne_o1_o2) pd_18 e1 8 (fun u13 T13 L13 X13 hQ13 => ?_)
  obtain ⟨o313, kd313, rfl, Nq13, szo313, Kq13, q13_0, q13_1, q13_2, q13_3⟩ := hQ13
  have N13 := Fr.app N0 Nq13
  have sz_o313 : h0.size ≤ o313 := Nat.le_trans K1.1 szo313
  have K13 := K1.trans Kq13 (allS (Or.inr sz_b1) all0)
  refine ret0 ?_
  exact g_retA C X13 K rfl rfl rfl d28_8 (by decide) (by decide) rfl ⟨b1, o313, kd313, rfl, N13, sz_b1, sz_o313, K13, q13_0, q13_1, q13_2, q13_3⟩
theorem ef_6iir (m : MethodId) (a1 : Int32) (a2 : Int32) (a3 : Addr) : entryFrame m #[(.int a1), (.int a2), (.ref a3)] 4 = mkF m 0 #[iv a1, iv a2, rv a3, uu] [] := by first | (simp [entryFrame, mkF, argsToLocals, Value.category, iv, rv, jv, nv, uu, sd]; done) | rfl
theorem d6_0 : decode prog_33_method_2_code 0 = .ok (.iload_n 0, 1) := by decide +kernel
theorem d6_1 : decode prog_33_method_2_code 1 = .ok (.ifCond .le 44, 3) := by decide +kernel
theorem d6_45 : decode prog_33_method_2_code 45 = .ok (.aload_n 2, 1) := by decide +kernel
theorem d6_46 : decode prog_33_method_2_code 46 = .ok (.astore_n 3, 1) := by decide +kernel
theorem d6_47 : decode prog_33_method_2_code 47 = .ok (.aload_n 3, 1) := by decide +kernel
theorem d6_48 : decode prog_33_method_2_code 48 = .ok (.areturn, 1) := by decide +kernel
abbrev y6 : MethodName := (⟨"com/example/firer/firer/formats/ParserMessages", "at", "(IILjava/lang/String;)Ljava/lang/String;"⟩ : MethodName)
theorem pn_6 : plainName "com/example/firer/firer/formats/ParserMessages" = true := by first | (simp [plainName, overriddenIn]; done) | decide +kernel
theorem rm6_le {x1 x2 cs1 : Int32} {o5 o6 o7 o8 : Addr} {kd5 kd7 kd8 : ClassId} {l5 : List Int32} (hw : OwnW a0 Z) (Z0 : n0 ≤ h0.size) (F0 : OEs Z h0 o5) (F1 : OFv Z h0 o5 (.ref o6)) (F2 : OFc Z h0 o5) (F3 : Arv Z h0 o6 kd5 .byte (Int32.ofNat l5.length) (l5.map Value.int) (.int 0)) (F4 : Sta Z h0 "java/lang/Integer" "DigitOnes" "[B" (.ref o7)) (F5 : Sta Z h0 "java/lang/Integer" "DigitTens" "[B" (.ref o8)) (F6 : Arv Z h0 o7 kd7 .byte (Int32.ofNat 100) (onesL.map Value.int) (.int 0)) (F7 : Arv Z h0 o8 kd8 .byte (Int32.ofNat 100) (tensL.map Value.int) (.int 0)) (F8 : OSc Z h0 cs1) (hx : ¬ (0 : Int32) < x1) : OwnMF l Z y6 prog_33_method_2_code 4 (some (.object "java/lang/String")) ws ⟨0, 0, 0, 0⟩ #[(.int x1), (.int x2), (.ref o5)] h0 (OwnQ (some (.ref o5)) h0 n0) := by
  refine bo (plainFor_of_name pn_6) ?_
  intro p e s m below meth c T0 G C hnm hnamed X0 e0 K
  have N0 := Fr.nil n0
  refine Goes.to (congrArg T0.setTop (ef_6iir m x1 x2 o5)) ?_
  refine g_iloadN C X0 d6_0 1 rfl ?_
  refine g_if_le C X0 d6_1 45 4 (fun hc1 => ?_) (fun hc1 => absurd hc1 hx)
  refine g_aloadN C X0 d6_45 46 rfl rfl ?_
  refine g_astoreN C X0 d6_46 47 rfl (ls' := #[iv x1, iv x2, rv o5, rv o5]) rfl ?_
  refine g_aloadN C X0 d6_47 48 rfl rfl ?_
  exact g_retA C X0 K rfl rfl rfl d6_48 (by decide) (by decide) e0 ⟨rfl, N0, rfl⟩
theorem d6_4 : decode prog_33_method_2_code 4 = .ok (.new 7, 3) := by decide +kernel
theorem w_37 {Z : State} {a0 : Array Value} (hw : ∀ d ∈ tables_1, d.before a0 Z = true) : Jvm.Cond.before (Jvm.Cond.classLink "com/example/firer/firer/formats/ParserMessages" (7 : Nat) "java/lang/StringBuilder") a0 Z = true := hw _ (List.mem_of_getElem? (i := 37) rfl)
theorem d6_7 : decode prog_33_method_2_code 7 = .ok (.dup, 1) := by decide +kernel
theorem d6_8 : decode prog_33_method_2_code 8 = .ok (.invokespecial 9, 3) := by decide +kernel
theorem w_42 {Z : State} {a0 : Array Value} (hw : ∀ d ∈ tables_1, d.before a0 Z = true) : Jvm.Cond.before (Jvm.Cond.code ({ cls := "java/lang/StringBuilder", name := "<init>", desc := "()V" } : Jvm.MethodName) jdk_67_method_1_code (1 : Nat) (Option.none : Option Jvm.ClassFile.FieldType)) a0 Z = true := hw _ (List.mem_of_getElem? (i := 42) rfl)
theorem w_40 {Z : State} {a0 : Array Value} (hw : ∀ d ∈ tables_1, d.before a0 Z = true) : Jvm.Cond.before (Jvm.Cond.methodLink "com/example/firer/firer/formats/ParserMessages" (9 : Nat) ({ cls := "java/lang/StringBuilder", name := "<init>", desc := "()V" } : Jvm.MethodName)) a0 Z = true := hw _ (List.mem_of_getElem? (i := 40) rfl)
theorem pd_19 : parseMethodDescriptor "()V" = some ⟨[], none⟩ := by decide +kernel
theorem w_41 {Z : State} {a0 : Array Value} (hw : ∀ d ∈ tables_1, d.before a0 Z = true) : Jvm.Cond.before (Jvm.Cond.instanceMethod ({ cls := "java/lang/StringBuilder", name := "<init>", desc := "()V" } : Jvm.MethodName)) a0 Z = true := hw _ (List.mem_of_getElem? (i := 41) rfl)
theorem d6_11 : decode prog_33_method_2_code 11 = .ok (.ldc 10, 2) := by decide +kernel
theorem strAtoms0 : ∀ a ∈ Bundle.stringAtoms, a ∈ tables_1 := by decide +kernel
theorem strAtoms {Z : State} {a0 : Array Value} (hw : ∀ d ∈ tables_1, d.before a0 Z = true) : ∀ a ∈ Bundle.stringAtoms, a.before a0 Z = true := fun a ha => hw a (strAtoms0 a ha)
theorem d6_13 : decode prog_33_method_2_code 13 = .ok (.invokevirtual 12, 3) := by decide +kernel
theorem w_62 {Z : State} {a0 : Array Value} (hw : ∀ d ∈ tables_1, d.before a0 Z = true) : Jvm.Cond.before (Jvm.Cond.code ({ cls := "java/lang/StringBuilder", name := "append", desc := "(Ljava/lang/String;)Ljava/lang/StringBuilder;" } : Jvm.MethodName) jdk_67_method_7_code (2 : Nat) (Option.some (Jvm.ClassFile.FieldType.object "java/lang/StringBuilder"))) a0 Z = true := hw _ (List.mem_of_getElem? (i := 62) rfl)
theorem w_58 {Z : State} {a0 : Array Value} (hw : ∀ d ∈ tables_1, d.before a0 Z = true) : Jvm.Cond.before (Jvm.Cond.methodLink "com/example/firer/firer/formats/ParserMessages" (12 : Nat) ({ cls := "java/lang/StringBuilder", name := "append", desc := "(Ljava/lang/String;)Ljava/lang/StringBuilder;" } : Jvm.MethodName)) a0 Z = true := hw _ (List.mem_of_getElem? (i := 58) rfl)
theorem pd_20 : parseMethodDescriptor "(Ljava/lang/String;)Ljava/lang/StringBuilder;" = some ⟨[(.object "java/lang/String")], some (.object "java/lang/StringBuilder")⟩ := by decide +kernel
theorem w_61 {Z : State} {a0 : Array Value} (hw : ∀ d ∈ tables_1, d.before a0 Z = true) : Jvm.Cond.before (Jvm.Cond.selects "java/lang/StringBuilder" ({ cls := "java/lang/StringBuilder", name := "append", desc := "(Ljava/lang/String;)Ljava/lang/StringBuilder;" } : Jvm.MethodName) ({ cls := "java/lang/StringBuilder", name := "append", desc := "(Ljava/lang/String;)Ljava/lang/StringBuilder;" } : Jvm.MethodName)) a0 Z = true := hw _ (List.mem_of_getElem? (i := 61) rfl)
theorem w_59 {Z : State} {a0 : Array Value} (hw : ∀ d ∈ tables_1, d.before a0 Z = true) : Jvm.Cond.before (Jvm.Cond.declares ({ cls := "java/lang/StringBuilder", name := "append", desc := "(Ljava/lang/String;)Ljava/lang/StringBuilder;" } : Jvm.MethodName)) a0 Z = true := hw _ (List.mem_of_getElem? (i := 59) rfl)
theorem w_60 {Z : State} {a0 : Array Value} (hw : ∀ d ∈ tables_1, d.before a0 Z = true) : Jvm.Cond.before (Jvm.Cond.instanceMethod ({ cls := "java/lang/StringBuilder", name := "append", desc := "(Ljava/lang/String;)Ljava/lang/StringBuilder;" } : Jvm.MethodName)) a0 Z = true := hw _ (List.mem_of_getElem? (i := 60) rfl)
theorem d6_16 : decode prog_33_method_2_code 16 = .ok (.iload_n 0, 1) := by decide +kernel
theorem d6_17 : decode prog_33_method_2_code 17 = .ok (.invokevirtual 16, 3) := by decide +kernel
theorem w_109 {Z : State} {a0 : Array Value} (hw : ∀ d ∈ tables_1, d.before a0 Z = true) : Jvm.Cond.before (Jvm.Cond.code ({ cls := "java/lang/StringBuilder", name := "append", desc := "(I)Ljava/lang/StringBuilder;" } : Jvm.MethodName) jdk_67_method_15_code (2 : Nat) (Option.some (Jvm.ClassFile.FieldType.object "java/lang/StringBuilder"))) a0 Z = true := hw _ (List.mem_of_getElem? (i := 109) rfl)
theorem w_105 {Z : State} {a0 : Array Value} (hw : ∀ d ∈ tables_1, d.before a0 Z = true) : Jvm.Cond.before (Jvm.Cond.methodLink "com/example/firer/firer/formats/ParserMessages" (16 : Nat) ({ cls := "java/lang/StringBuilder", name := "append", desc := "(I)Ljava/lang/StringBuilder;" } : Jvm.MethodName)) a0 Z = true := hw _ (List.mem_of_getElem? (i := 105) rfl)
theorem pd_21 : parseMethodDescriptor "(I)Ljava/lang/StringBuilder;" = some ⟨[.int], some (.object "java/lang/StringBuilder")⟩ := by decide +kernel
theorem w_108 {Z : State} {a0 : Array Value} (hw : ∀ d ∈ tables_1, d.before a0 Z = true) : Jvm.Cond.before (Jvm.Cond.selects "java/lang/StringBuilder" ({ cls := "java/lang/StringBuilder", name := "append", desc := "(I)Ljava/lang/StringBuilder;" } : Jvm.MethodName) ({ cls := "java/lang/StringBuilder", name := "append", desc := "(I)Ljava/lang/StringBuilder;" } : Jvm.MethodName)) a0 Z = true := hw _ (List.mem_of_getElem? (i := 108) rfl)
theorem w_106 {Z : State} {a0 : Array Value} (hw : ∀ d ∈ tables_1, d.before a0 Z = true) : Jvm.Cond.before (Jvm.Cond.declares ({ cls := "java/lang/StringBuilder", name := "append", desc := "(I)Ljava/lang/StringBuilder;" } : Jvm.MethodName)) a0 Z = true := hw _ (List.mem_of_getElem? (i := 106) rfl)
theorem w_107 {Z : State} {a0 : Array Value} (hw : ∀ d ∈ tables_1, d.before a0 Z = true) : Jvm.Cond.before (Jvm.Cond.instanceMethod ({ cls := "java/lang/StringBuilder", name := "append", desc := "(I)Ljava/lang/StringBuilder;" } : Jvm.MethodName)) a0 Z = true := hw _ (List.mem_of_getElem? (i := 107) rfl)
theorem d6_20 : decode prog_33_method_2_code 20 = .ok (.ldc 19, 2) := by decide +kernel
theorem d6_22 : decode prog_33_method_2_code 22 = .ok (.invokevirtual 12, 3) := by decide +kernel
theorem d6_25 : decode prog_33_method_2_code 25 = .ok (.iload_n 1, 1) := by decide +kernel
theorem d6_26 : decode prog_33_method_2_code 26 = .ok (.invokevirtual 16, 3) := by decide +kernel
theorem d6_29 : decode prog_33_method_2_code 29 = .ok (.ldc 21, 2) := by decide +kernel
theorem d6_31 : decode prog_33_method_2_code 31 = .ok (.invokevirtual 12, 3) := by decide +kernel
theorem d6_34 : decode prog_33_method_2_code 34 = .ok (.aload_n 2, 1) := by decide +kernel
theorem d6_35 : decode prog_33_method_2_code 35 = .ok (.invokevirtual 12, 3) := by decide +kernel
theorem d6_38 : decode prog_33_method_2_code 38 = .ok (.invokevirtual 23, 3) := by decide +kernel
theorem w_157 {Z : State} {a0 : Array Value} (hw : ∀ d ∈ tables_1, d.before a0 Z = true) : Jvm.Cond.before (Jvm.Cond.code ({ cls := "java/lang/StringBuilder", name := "toString", desc := "()Ljava/lang/String;" } : Jvm.MethodName) jdk_67_method_42_code (1 : Nat) (Option.some (Jvm.ClassFile.FieldType.object "java/lang/String"))) a0 Z = true := hw _ (List.mem_of_getElem? (i := 157) rfl)
theorem w_153 {Z : State} {a0 : Array Value} (hw : ∀ d ∈ tables_1, d.before a0 Z = true) : Jvm.Cond.before (Jvm.Cond.methodLink "com/example/firer/firer/formats/ParserMessages" (23 : Nat) ({ cls := "java/lang/StringBuilder", name := "toString", desc := "()Ljava/lang/String;" } : Jvm.MethodName)) a0 Z = true := hw _ (List.mem_of_getElem? (i := 153) rfl)
theorem pd_22 : parseMethodDescriptor "()Ljava/lang/String;" = some ⟨[], some (.object "java/lang/String")⟩ := by decide +kernel
theorem w_156 {Z : State} {a0 : Array Value} (hw : ∀ d ∈ tables_1, d.before a0 Z = true) : Jvm.Cond.before (Jvm.Cond.selects "java/lang/StringBuilder" ({ cls := "java/lang/StringBuilder", name := "toString", desc := "()Ljava/lang/String;" } : Jvm.MethodName) ({ cls := "java/lang/StringBuilder", name := "toString", desc := "()Ljava/lang/String;" } : Jvm.MethodName)) a0 Z = true := hw _ (List.mem_of_getElem? (i := 156) rfl)
theorem w_154 {Z : State} {a0 : Array Value} (hw : ∀ d ∈ tables_1, d.before a0 Z = true) : Jvm.Cond.before (Jvm.Cond.declares ({ cls := "java/lang/StringBuilder", name := "toString", desc := "()Ljava/lang/String;" } : Jvm.MethodName)) a0 Z = true := hw _ (List.mem_of_getElem? (i := 154) rfl)
theorem w_155 {Z : State} {a0 : Array Value} (hw : ∀ d ∈ tables_1, d.before a0 Z = true) : Jvm.Cond.before (Jvm.Cond.instanceMethod ({ cls := "java/lang/StringBuilder", name := "toString", desc := "()Ljava/lang/String;" } : Jvm.MethodName)) a0 Z = true := hw _ (List.mem_of_getElem? (i := 155) rfl)
theorem d6_41 : decode prog_33_method_2_code 41 = .ok (.astore_n 3, 1) := by decide +kernel
theorem d6_42 : decode prog_33_method_2_code 42 = .ok (.goto 5, 3) := by decide +kernel
def Q6_gt (Z : State) (x1 : Int32) (x2 : Int32) (o5 : Addr) (o6 : Addr) (kd5 : ClassId) (l5 : List Int32) (o7 : Addr) (o8 : Addr) (kd7 : ClassId) (kd8 : ClassId) (cs1 : Int32) (h0 : Heap) (n0 : Nat) (v : Option Value) (h : Heap) (L : List Loc) : Prop := ∃ (o4 : Addr) (o3 : Addr) (kd3 : ClassId), v = some (.ref o4) ∧ Fr n0 L ∧ h0.size ≤ o4 ∧ h0.size ≤ o3 ∧ Keep h0 h [] ∧ OEs Z h o4 ∧ OFv Z h o4 (.ref o3) ∧ OFc Z h o4 ∧ Arv Z h o3 kd3 .byte (Int32.ofNat ((((((([] : List Int32) ++ ([108, 105, 110, 101, 32] : List Int32)) ++ decI x1) ++ ([44, 32, 99, 111, 108, 117, 109, 110, 32] : List Int32)) ++ decI x2) ++ ([58, 32] : List Int32)) ++ l5).length) (((((((([] : List Int32) ++ ([108, 105, 110, 101, 32] : List Int32)) ++ decI x1) ++ ([44, 32, 99, 111, 108, 117, 109, 110, 32] : List Int32)) ++ decI x2) ++ ([58, 32] : List Int32)) ++ l5).map Value.int) (.int 0)
theorem rm6_gt {x1 x2 cs1 : Int32} {o5 o6 o7 o8 : Addr} {kd5 kd7 kd8 : ClassId} {l5 : List Int32} (hw : OwnW a0 Z) (Z0 : n0 ≤ h0.size) (hEL : EW Z a0 EL) (F0 : OEs Z h0 o5) (F1 : OFv Z h0 o5 (.ref o6)) (F2 : OFc Z h0 o5) (F3 : Arv Z h0 o6 kd5 .byte (Int32.ofNat l5.length) (l5.map Value.int) (.int 0)) (F4 : Sta Z h0 "java/lang/Integer" "DigitOnes" "[B" (.ref o7)) (F5 : Sta Z h0 "java/lang/Integer" "DigitTens" "[B" (.ref o8)) (F6 : Arv Z h0 o7 kd7 .byte (Int32.ofNat 100) (onesL.map Value.int) (.int 0)) (F7 : Arv Z h0 o8 kd8 .byte (Int32.ofNat 100) (tensL.map Value.int) (.int 0)) (F8 : OSc Z h0 cs1) (hcs : ¬ cs1 = (0 : Int32)) (hx : (0 : Int32) < x1) (h5 : l5.length ≤ 2) : OwnMFH l Z EL y6 prog_33_method_2_code 4 (some (.object "java/lang/String")) ws ⟨6, 16, 730, 91⟩ #[(.int x1), (.int x2), (.ref o5)] h0 (Q6_gt Z x1 x2 o5 o6 kd5 l5 o7 o8 kd7 kd8 cs1 h0 n0) := by
  refine boH (plainFor_of_name pn_6) ?_
  intro p e s m below meth c T0 G C hnm hnamed X0 e0 hh0 hS0 H0_ R0_ K
  have N0 := Fr.nil n0
  refine Goes.to (congrArg T0.setTop (ef_6iir m x1 x2 o5)) ?_
  have K00 := Keep.refl h0 []
  refine g_iloadN C X0 d6_0 1 rfl ?_
  refine g_if_le C X0 d6_1 45 4 (fun hc1 => absurd hx hc1) (fun hc1 => ?_)
  refine g_new C X0 (w_37 hw) (w_38 hw) (w_39 hw) e0 d6_4 7 (by decide) (by decide) (fun T1 h1 b1 X1 e1 g1 E1 A1 D1 => ?_)
  have n2 : o5 ≠ b1 := Nat.ne_of_lt (Nat.lt_of_lt_of_eq F0.lt g1.symm)
  have n3 : o6 ≠ b1 := Nat.ne_of_lt (Nat.lt_of_lt_of_eq F3.lt g1.symm)
  have n4 : o7 ≠ b1 := Nat.ne_of_lt (Nat.lt_of_lt_of_eq F6.lt g1.symm)
  have n5 : o8 ≠ b1 := Nat.ne_of_lt (Nat.lt_of_lt_of_eq F7.lt g1.symm)
  have f6 := F0.ext E1
  have f7 := F1.ext E1
  have f8 := F2.ext E1
  have f9 := F3.ext E1
  have f10 := F4.ext E1
  have f11 := F5.ext E1
  have f12 := F6.ext E1
  have f13 := F7.ext E1
  have f14 := F8.ext E1
  have gn_b1 : n0 ≤ b1 := Nat.le_trans Z0 (Nat.le_of_eq g1.symm)
  have Z1 := Nat.le_trans Z0 E1.1
  have hk1 := Nat.le_trans (Nat.zero_le _) E1.1
  have H_1 := H0_.ext E1
  have R_1 := R0_.trans (CHr.ext E1 H0_)
  have sz_b1 : h0.size ≤ b1 := Nat.le_trans K00.1 (Nat.le_of_eq g1.symm)
  have K1 := K00.ext E1
  have f15 : Fld Z h1 b1 "java/lang/AbstractStringBuilder" "value" "[B" .null := D1 (Or.inl (w_52 hw)) (ty := (.array .byte)) (by decide)
  have f16 : Fld Z h1 b1 "java/lang/AbstractStringBuilder" "coder" "B" (.int 0) := D1 (Or.inl (w_54 hw)) (ty := .byte) (by decide)
  have f17 : Fld Z h1 b1 "java/lang/AbstractStringBuilder" "count" "I" (.int 0) := D1 (Or.inl (w_79 hw)) (ty := .int) (by decide)
  refine g_dup C X1 d6_7 8 rfl ?_
  refine g_callI C X1 rfl (w_40 hw) (w_41 hw) (w_39 hw) (w_42 hw) d6_8 [] [(.ref b1)] 1 (rm8 hw Z1 A1 f15 f16 f17 f14 gn_b1 hcs) pd_19 e1 11 (fun u18 T18 L18 X18 hQ18 => ?_)
  obtain ⟨o318, kd318, rfl, Nq18, szo318, Kq18, q18_0, q18_1, q18_2, q18_3, q18_4⟩ := hQ18
  have N18 := Fr.app N0 Nq18
  have n19 : b1 ≠ o318 := Nat.ne_of_lt (Nat.lt_of_lt_of_le A1.lt szo318)
  have n20 : o5 ≠ o318 := Nat.ne_of_lt (Nat.lt_of_lt_of_le f6.lt szo318)
  have n21 : o6 ≠ o318 := Nat.ne_of_lt (Nat.lt_of_lt_of_le f9.lt szo318)
  have n22 : o7 ≠ o318 := Nat.ne_of_lt (Nat.lt_of_lt_of_le f12.lt szo318)
  have n23 : o8 ≠ o318 := Nat.ne_of_lt (Nat.lt_of_lt_of_le f13.lt szo318)
  have f24 := f6.keep Kq18
  have f25 := f7.keep Kq18 (ninS n2 nin0)
  have f26 := f8.keep Kq18 (ninS n2 nin0)
  have f27 := f9.keep Kq18 (ninS n3 nin0)
  have f28 := Sta.keepN f10 Kq18 (allS (Exa.ns A1) all0)
  have f29 := Sta.keepN f11 Kq18 (allS (Exa.ns A1) all0)
  have f30 := f12.keep Kq18 (ninS n4 nin0)
  have f31 := f13.keep Kq18 (ninS n5 nin0)
  have f32 := Sta.keepN f14 Kq18 (allS (Exa.ns A1) all0)
  have f33 := A1.keep Kq18
  have gn_o318 : n0 ≤ o318 := Nat.le_trans Z1 szo318
  have Z18 := Nat.le_trans Z1 Kq18.1
  have hk18 := Nat.le_trans hk1 Kq18.1
  have H_18 := CHv.keep Kq18 (allS (Safe.exa C.2.1.alike A1 (by decide) (by decide)) all0) H_1
  have R_18 := R_1.trans (CHr.keep Kq18 (allS (Safe.exa C.2.1.alike A1 (by decide) (by decide)) all0) H_1)
  have sf_o318_18 := Safe.keep Kq18 (allS (Safe.exa C.2.1.alike A1 (by decide) (by decide)) all0) H_1 (Safe.new szo318)
  have sz_o318 : h0.size ≤ o318 := Nat.le_trans K1.1 szo318
  have K18 := K1.trans Kq18 (allS (Or.inr sz_b1) all0)
  refine ret0 ?_
  refine g_ldcCH C X18 (n := 20) (z := (5 : Int32)) (vs := [(.int 108), (.int 105), (.int 110), (.int 101), (.int 32)]) (hw _ (List.mem_of_getElem? (i := 55) rfl)) (strAtoms hw) rfl hS0 hk18 hEL (by decide) H_18 ⟨by decide, rfl⟩ (by decide) rfl d6_11 13 (by decide) (by decide) (by decide) (by decide) (fun b34 T34 h34 k34 bb34 ki34 C34 X34 e34 E34 hS34 hk34 fe34 fc34 fv34 fa34 A34 sn34 => ?_)
  have f35 := f24.ext E34
  have f36 := f25.ext E34
  have f37 := f26.ext E34
  have f38 := f27.ext E34
  have f39 := f28.ext E34
  have f40 := f29.ext E34
  have f41 := f30.ext E34
  have f42 := f31.ext E34
  have f43 := f32.ext E34
  have f44 := f33.ext E34
  have f45 := q18_0.ext E34
  have f46 := q18_1.ext E34
  have f47 := q18_2.ext E34
  have f48 := q18_3.ext E34
  have f49 := q18_4.ext E34
  have H_34 := A34.1
  have R_34 := R_18.trans A34
  have sf_o318_34 := A34.safe q18_3.lt sf_o318_18
  have Z34 := Nat.le_trans Z18 E34.1
  have K34 := K18.ext E34
  have f50 : Arv Z h34 bb34 ki34 .byte (Int32.ofNat ([108, 105, 110, 101, 32] : List Int32).length) (([108, 105, 110, 101, 32] : List Int32).map Value.int) (.int 0) := fa34
  refine g_callV C34 X34 (w_58 hw) (w_59 hw) (notFace_of_selects (args := #[]) (mvT C34.2.1 (w_61 hw))) (w_61 hw) (w_60 hw) (w_62 hw) (w_39 hw) f44 d6_13 [(.ref b34)] [] 0 (rm10 hw Z34 f44 f45 f46 f47 f48 f49 fe34 fv34 fc34 f50 f43 gn_b1 gn_o318 hcs (by decide) (by decide) (by have q1 := decI_length x1; have q2 := decI_length x2; simp only [List.length_append, List.length_cons, List.length_nil]; omega) n19 (sn34 _ (Safe.exa C34.2.1.alike f44 (by decide) (by decide))).1 (sn34 _ (Safe.exa C34.2.1.alike f44 (by decide) (by decide))).2 (sn34 _ sf_o318_34).1 (sn34 _ sf_o318_34).2) pd_20 e34 16 (fun u51 T51 L51 X51 hQ51 => ?_)
  obtain ⟨o351, kd351, c351, rfl, Nq51, szo351, Kq51, q51_0, q51_1, q51_2, q51_3, q51_4, p51_c90, p51_ll⟩ := hQ51
  have N51 := Fr.app N18 Nq51
  have n52 : b1 ≠ o351 := alt_ne szo351 n19 f44.lt
  have n55 : o5 ≠ o351 := alt_ne szo351 n20 f35.lt
  have n56 : o6 ≠ o351 := alt_ne szo351 n21 f38.lt
  have n57 : o7 ≠ o351 := alt_ne szo351 n22 f41.lt
  have n58 : o8 ≠ o351 := alt_ne szo351 n23 f42.lt
  have f59 := f35.keep Kq51
  have f60 := f36.keep Kq51 (ninS n2 (ninS n20 nin0))
  have f61 := f37.keep Kq51 (ninS n2 (ninS n20 nin0))
  have f62 := f38.keep Kq51 (ninS n3 (ninS n21 nin0))
  have f63 := Sta.keepN f39 Kq51 (allS (Exa.ns f44) (allS (Exa.ns f49) all0))
  have f64 := Sta.keepN f40 Kq51 (allS (Exa.ns f44) (allS (Exa.ns f49) all0))
  have f65 := f41.keep Kq51 (ninS n4 (ninS n22 nin0))
  have f66 := f42.keep Kq51 (ninS n5 (ninS n23 nin0))
  have f67 := Sta.keepN f43 Kq51 (allS (Exa.ns f44) (allS (Exa.ns f49) all0))
  have f68 := f44.keep Kq51
  have gn_o351 : n0 ≤ o351 := alt_born szo351 gn_o318 Z34
  have Z51 := Nat.le_trans Z34 Kq51.1
  have hk51 := Nat.le_trans hk34 Kq51.1
  have H_51 := CHv.keep Kq51 (allS (Safe.exa C34.2.1.alike f44 (by decide) (by decide)) (allS sf_o318_34 all0)) H_34
  have R_51 := R_34.trans (CHr.keep Kq51 (allS (Safe.exa C34.2.1.alike f44 (by decide) (by decide)) (allS sf_o318_34 all0)) H_34)
  have sf_o351_51 := Safe.keep Kq51 (allS (Safe.exa C34.2.1.alike f44 (by decide) (by decide)) (allS sf_o318_34 all0)) H_34 (alt_safe szo351 sf_o318_34)
  have sz_o351 : h0.size ≤ o351 := alt_sz szo351 sz_o318 K34.1
  have K51 := K34.trans Kq51 (allS (Or.inr sz_b1) (allS (Or.inr sz_o318) all0))
  refine ret1 ?_
  refine g_iloadN C34 X51 d6_16 17 rfl ?_
  refine g_callV C34 X51 (w_105 hw) (w_106 hw) (notFace_of_selects (args := #[]) (mvT C34.2.1 (w_108 hw))) (w_108 hw) (w_107 hw) (w_109 hw) (w_39 hw) f68 d6_17 [(.int x1)] [] 0 (rm18 hw Z51 f68 q51_0 q51_1 q51_2 q51_3 q51_4 f63 f64 f65 f66 f67 gn_b1 gn_o351 hcs p51_c90 p51_ll (by have q1 := decI_length x1; have q2 := decI_length x2; simp only [List.length_append, List.length_cons, List.length_nil]; omega) n52 (Ne.symm n4) (Ne.symm n5) (Ne.symm n57) (Ne.symm n58)) pd_21 rfl 20 (fun u73 T73 L73 X73 hQ73 => ?_)
  obtain ⟨o373, kd373, c373, rfl, Nq73, szo373, Kq73, q73_0, q73_1, q73_2, q73_3, q73_4, p73_c90, p73_ll⟩ := hQ73
  have N73 := Fr.app N51 Nq73
  have n74 : b1 ≠ o373 := alt_ne szo373 n52 f68.lt
  have n77 : o5 ≠ o373 := alt_ne szo373 n55 f59.lt
  have n78 : o6 ≠ o373 := alt_ne szo373 n56 f62.lt
  have n79 : o7 ≠ o373 := alt_ne szo373 n57 f65.lt
  have n80 : o8 ≠ o373 := alt_ne szo373 n58 f66.lt
  have f81 := f59.keep Kq73
  have f82 := f60.keep Kq73 (ninS n2 (ninS n55 nin0))
  have f83 := f61.keep Kq73 (ninS n2 (ninS n55 nin0))
  have f84 := f62.keep Kq73 (ninS n3 (ninS n56 nin0))
  have f85 := Sta.keepN f63 Kq73 (allS (Exa.ns f68) (allS (Exa.ns q51_4) all0))
  have f86 := Sta.keepN f64 Kq73 (allS (Exa.ns f68) (allS (Exa.ns q51_4) all0))
  have f87 := f65.keep Kq73 (ninS n4 (ninS n57 nin0))
  have f88 := f66.keep Kq73 (ninS n5 (ninS n58 nin0))
  have f89 := Sta.keepN f67 Kq73 (allS (Exa.ns f68) (allS (Exa.ns q51_4) all0))
  have f90 := f68.keep Kq73
  have gn_o373 : n0 ≤ o373 := alt_born szo373 gn_o351 Z51
  have Z73 := Nat.le_trans Z51 Kq73.1
  have hk73 := Nat.le_trans hk51 Kq73.1
  have H_73 := CHv.keep Kq73 (allS (Safe.exa C34.2.1.alike f68 (by decide) (by decide)) (allS sf_o351_51 all0)) H_51
  have R_73 := R_51.trans (CHr.keep Kq73 (allS (Safe.exa C34.2.1.alike f68 (by decide) (by decide)) (allS sf_o351_51 all0)) H_51)
  have sf_o373_73 := Safe.keep Kq73 (allS (Safe.exa C34.2.1.alike f68 (by decide) (by decide)) (allS sf_o351_51 all0)) H_51 (alt_safe szo373 sf_o351_51)
  have sz_o373 : h0.size ≤ o373 := alt_sz szo373 sz_o351 K51.1
  have K73 := K51.trans Kq73 (allS (Or.inr sz_b1) (allS (Or.inr sz_o351) all0))
  refine ret1 ?_
  refine g_ldcCH C34 X73 (n := 36) (z := (9 : Int32)) (vs := [(.int 44), (.int 32), (.int 99), (.int 111), (.int 108), (.int 117), (.int 109), (.int 110), (.int 32)]) (hw _ (List.mem_of_getElem? (i := 128) rfl)) (strAtoms hw) rfl hS34 hk73 hEL (by decide) H_73 ⟨by decide, rfl⟩ (by decide) rfl d6_20 22 (by decide) (by decide) (by decide) (by decide) (fun b95 T95 h95 k95 bb95 ki95 C95 X95 e95 E95 hS95 hk95 fe95 fc95 fv95 fa95 A95 sn95 => ?_)
  have f96 := f81.ext E95
  have f97 := f82.ext E95
  have f98 := f83.ext E95
  have f99 := f84.ext E95
  have f100 := f85.ext E95
  have f101 := f86.ext E95
  have f102 := f87.ext E95
  have f103 := f88.ext E95
  have f104 := f89.ext E95
  have f105 := f90.ext E95
  have f110 := q73_0.ext E95
  have f111 := q73_1.ext E95
  have f112 := q73_2.ext E95
  have f113 := q73_3.ext E95
  have f114 := q73_4.ext E95
  have H_95 := A95.1
  have R_95 := R_73.trans A95
  have sf_o373_95 := A95.safe q73_3.lt sf_o373_73
  have Z95 := Nat.le_trans Z73 E95.1
  have K95 := K73.ext E95
  have f115 : Arv Z h95 bb95 ki95 .byte (Int32.ofNat ([44, 32, 99, 111, 108, 117, 109, 110, 32] : List Int32).length) (([44, 32, 99, 111, 108, 117, 109, 110, 32] : List Int32).map Value.int) (.int 0) := fa95
  refine g_callV C95 X95 (w_58 hw) (w_59 hw) (notFace_of_selects (args := #[]) (mvT C95.2.1 (w_61 hw))) (w_61 hw) (w_60 hw) (w_62 hw) (w_39 hw) f105 d6_22 [(.ref b95)] [] 0 (rm10 hw Z95 f105 f110 f111 f112 f113 f114 fe95 fv95 fc95 f115 f104 gn_b1 gn_o373 hcs p73_c90 p73_ll (by have q1 := decI_length x1; have q2 := decI_length x2; simp only [List.length_append, List.length_cons, List.length_nil]; omega) n74 (sn95 _ (Safe.exa C95.2.1.alike f105 (by decide) (by decide))).1 (sn95 _ (Safe.exa C95.2.1.alike f105 (by decide) (by decide))).2 (sn95 _ sf_o373_95).1 (sn95 _ sf_o373_95).2) pd_20 e95 25 (fun u116 T116 L116 X116 hQ116 => ?_)
  obtain ⟨o3116, kd3116, c3116, rfl, Nq116, szo3116, Kq116, q116_0, q116_1, q116_2, q116_3, q116_4, p116_c90, p116_ll⟩ := hQ116
  have N116 := Fr.app N73 Nq116
  have n117 : b1 ≠ o3116 := alt_ne szo3116 n74 f105.lt
  have n122 : o5 ≠ o3116 := alt_ne szo3116 n77 f96.lt
  have n123 : o6 ≠ o3116 := alt_ne szo3116 n78 f99.lt
  have n124 : o7 ≠ o3116 := alt_ne szo3116 n79 f102.lt
  have n125 : o8 ≠ o3116 := alt_ne szo3116 n80 f103.lt
  have f126 := f96.keep Kq116
  have f127 := f97.keep Kq116 (ninS n2 (ninS n77 nin0))
  have f128 := f98.keep Kq116 (ninS n2 (ninS n77 nin0))
  have f129 := f99.keep Kq116 (ninS n3 (ninS n78 nin0))
  have f130 := Sta.keepN f100 Kq116 (allS (Exa.ns f105) (allS (Exa.ns f114) all0))
  have f131 := Sta.keepN f101 Kq116 (allS (Exa.ns f105) (allS (Exa.ns f114) all0))
  have f132 := f102.keep Kq116 (ninS n4 (ninS n79 nin0))
  have f133 := f103.keep Kq116 (ninS n5 (ninS n80 nin0))
  have f134 := Sta.keepN f104 Kq116 (allS (Exa.ns f105) (allS (Exa.ns f114) all0))
  have f135 := f105.keep Kq116
  have gn_o3116 : n0 ≤ o3116 := alt_born szo3116 gn_o373 Z95
  have Z116 := Nat.le_trans Z95 Kq116.1
  have hk116 := Nat.le_trans hk95 Kq116.1
  have H_116 := CHv.keep Kq116 (allS (Safe.exa C95.2.1.alike f105 (by decide) (by decide)) (allS sf_o373_95 all0)) H_95
  have R_116 := R_95.trans (CHr.keep Kq116 (allS (Safe.exa C95.2.1.alike f105 (by decide) (by decide)) (allS sf_o373_95 all0)) H_95)
  have sf_o3116_116 := Safe.keep Kq116 (allS (Safe.exa C95.2.1.alike f105 (by decide) (by decide)) (allS sf_o373_95 all0)) H_95 (alt_safe szo3116 sf_o373_95)
  have sz_o3116 : h0.size ≤ o3116 := alt_sz szo3116 sz_o373 K95.1
  have K116 := K95.trans Kq116 (allS (Or.inr sz_b1) (allS (Or.inr sz_o373) all0))
  refine ret1 ?_
  refine g_iloadN C95 X116 d6_25 26 rfl ?_
  refine g_callV C95 X116 (w_105 hw) (w_106 hw) (notFace_of_selects (args := #[]) (mvT C95.2.1 (w_108 hw))) (w_108 hw) (w_107 hw) (w_109 hw) (w_39 hw) f135 d6_26 [(.int x2)] [] 0 (rm18 hw Z116 f135 q116_0 q116_1 q116_2 q116_3 q116_4 f130 f131 f132 f133 f134 gn_b1 gn_o3116 hcs p116_c90 p116_ll (by have q1 := decI_length x1; have q2 := decI_length x2; simp only [List.length_append, List.length_cons, List.length_nil]; omega) n117 (Ne.symm n4) (Ne.symm n5) (Ne.symm n124) (Ne.symm n125)) pd_21 rfl 29 (fun u144 T144 L144 X144 hQ144 => ?_)
  obtain ⟨o3144, kd3144, c3144, rfl, Nq144, szo3144, Kq144, q144_0, q144_1, q144_2, q144_3, q144_4, p144_c90, p144_ll⟩ := hQ144
  have N144 := Fr.app N116 Nq144
  have n145 : b1 ≠ o3144 := alt_ne szo3144 n117 f135.lt
  have n150 : o5 ≠ o3144 := alt_ne szo3144 n122 f126.lt
  have n151 : o6 ≠ o3144 := alt_ne szo3144 n123 f129.lt
  have f154 := f126.keep Kq144
  have f155 := f127.keep Kq144 (ninS n2 (ninS n122 nin0))
  have f156 := f128.keep Kq144 (ninS n2 (ninS n122 nin0))
  have f157 := f129.keep Kq144 (ninS n3 (ninS n123 nin0))
  have f162 := Sta.keepN f134 Kq144 (allS (Exa.ns f135) (allS (Exa.ns q116_4) all0))
  have f163 := f135.keep Kq144
  have gn_o3144 : n0 ≤ o3144 := alt_born szo3144 gn_o3116 Z116
  have Z144 := Nat.le_trans Z116 Kq144.1
  have hk144 := Nat.le_trans hk116 Kq144.1
  have H_144 := CHv.keep Kq144 (allS (Safe.exa C95.2.1.alike f135 (by decide) (by decide)) (allS sf_o3116_116 all0)) H_116
  have R_144 := R_116.trans (CHr.keep Kq144 (allS (Safe.exa C95.2.1.alike f135 (by decide) (by decide)) (allS sf_o3116_116 all0)) H_116)
  have sf_o3144_144 := Safe.keep Kq144 (allS (Safe.exa C95.2.1.alike f135 (by decide) (by decide)) (allS sf_o3116_116 all0)) H_116 (alt_safe szo3144 sf_o3116_116)
  have sz_o3144 : h0.size ≤ o3144 := alt_sz szo3144 sz_o3116 K116.1
  have K144 := K116.trans Kq144 (allS (Or.inr sz_b1) (allS (Or.inr sz_o3116) all0))
  refine ret1 ?_
  refine g_ldcCH C95 X144 (n := 8) (z := (2 : Int32)) (vs := [(.int 58), (.int 32)]) (hw _ (List.mem_of_getElem? (i := 152) rfl)) (strAtoms hw) rfl hS95 hk144 hEL (by decide) H_144 ⟨by decide, rfl⟩ (by decide) rfl d6_29 31 (by decide) (by decide) (by decide) (by decide) (fun b172 T172 h172 k172 bb172 ki172 C172 X172 e172 E172 hS172 hk172 fe172 fc172 fv172 fa172 A172 sn172 => ?_)
  have f173 := f154.ext E172
  have f174 := f155.ext E172
  have f175 := f156.ext E172
  have f176 := f157.ext E172
  have f181 := f162.ext E172
  have f182 := f163.ext E172
  have f191 := q144_0.ext E172
  have f192 := q144_1.ext E172
  have f193 := q144_2.ext E172
  have f194 := q144_3.ext E172
  have f195 := q144_4.ext E172
  have H_172 := A172.1
  have R_172 := R_144.trans A172
  have sf_o3144_172 := A172.safe q144_3.lt sf_o3144_144
  have Z172 := Nat.le_trans Z144 E172.1
  have K172 := K144.ext E172
  have f196 : Arv Z h172 bb172 ki172 .byte (Int32.ofNat ([58, 32] : List Int32).length) (([58, 32] : List Int32).map Value.int) (.int 0) := fa172
  refine g_callV C172 X172 (w_58 hw) (w_59 hw) (notFace_of_selects (args := #[]) (mvT C172.2.1 (w_61 hw))) (w_61 hw) (w_60 hw) (w_62 hw) (w_39 hw) f182 d6_31 [(.ref b172)] [] 0 (rm10 hw Z172 f182 f191 f192 f193 f194 f195 fe172 fv172 fc172 f196 f181 gn_b1 gn_o3144 hcs p144_c90 p144_ll (by have q1 := decI_length x1; have q2 := decI_length x2; simp only [List.length_append, List.length_cons, List.length_nil]; omega) n145 (sn172 _ (Safe.exa C172.2.1.alike f182 (by decide) (by decide))).1 (sn172 _ (Safe.exa C172.2.1.alike f182 (by decide) (by decide))).2 (sn172 _ sf_o3144_172).1 (sn172 _ sf_o3144_172).2) pd_20 e172 34 (fun u197 T197 L197 X197 hQ197 => ?_)
  obtain ⟨o3197, kd3197, c3197, rfl, Nq197, szo3197, Kq197, q197_0, q197_1, q197_2, q197_3, q197_4, p197_c90, p197_ll⟩ := hQ197
  have N197 := Fr.app N144 Nq197
  have n198 : b1 ≠ o3197 := alt_ne szo3197 n145 f182.lt
  have n205 : o5 ≠ o3197 := alt_ne szo3197 n150 f173.lt
  have n206 : o6 ≠ o3197 := alt_ne szo3197 n151 f176.lt
  have f209 := f173.keep Kq197
  have f210 := f174.keep Kq197 (ninS n2 (ninS n150 nin0))
  have f211 := f175.keep Kq197 (ninS n2 (ninS n150 nin0))
  have f212 := f176.keep Kq197 (ninS n3 (ninS n151 nin0))
  have f217 := Sta.keepN f181 Kq197 (allS (Exa.ns f182) (allS (Exa.ns f195) all0))
  have f218 := f182.keep Kq197
  have gn_o3197 : n0 ≤ o3197 := alt_born szo3197 gn_o3144 Z172
  have Z197 := Nat.le_trans Z172 Kq197.1
  have hk197 := Nat.le_trans hk172 Kq197.1
  have H_197 := CHv.keep Kq197 (allS (Safe.exa C172.2.1.alike f182 (by decide) (by decide)) (allS sf_o3144_172 all0)) H_172
  have R_197 := R_172.trans (CHr.keep Kq197 (allS (Safe.exa C172.2.1.alike f182 (by decide) (by decide)) (allS sf_o3144_172 all0)) H_172)
  have sf_o3197_197 := Safe.keep Kq197 (allS (Safe.exa C172.2.1.alike f182 (by decide) (by decide)) (allS sf_o3144_172 all0)) H_172 (alt_safe szo3197 sf_o3144_172)
  have sz_o3197 : h0.size ≤ o3197 := alt_sz szo3197 sz_o3144 K172.1
  have K197 := K172.trans Kq197 (allS (Or.inr sz_b1) (allS (Or.inr sz_o3144) all0))
  refine ret1 ?_
  refine g_aloadN C172 X197 d6_34 35 rfl rfl ?_
  refine g_callV C172 X197 (w_58 hw) (w_59 hw) (notFace_of_selects (args := #[]) (mvT C172.2.1 (w_61 hw))) (w_61 hw) (w_60 hw) (w_62 hw) (w_39 hw) f218 d6_35 [(.ref o5)] [] 0 (rm10 hw Z197 f218 q197_0 q197_1 q197_2 q197_3 q197_4 f209 f210 f211 f212 f217 gn_b1 gn_o3197 hcs p197_c90 p197_ll (by have q1 := decI_length x1; have q2 := decI_length x2; simp only [List.length_append, List.length_cons, List.length_nil]; omega) n198 (Ne.symm n2) (Ne.symm n3) (Ne.symm n205) (Ne.symm n206)) pd_20 rfl 38 (fun u231 T231 L231 X231 hQ231 => ?_)
  obtain ⟨o3231, kd3231, c3231, rfl, Nq231, szo3231, Kq231, q231_0, q231_1, q231_2, q231_3, q231_4, p231_c90, p231_ll⟩ := hQ231
  have N231 := Fr.app N197 Nq231
  have n232 : b1 ≠ o3231 := alt_ne szo3231 n198 f218.lt
  have f251 := Sta.keepN f217 Kq231 (allS (Exa.ns f218) (allS (Exa.ns q197_4) all0))
  have f252 := f218.keep Kq231
  have Z231 := Nat.le_trans Z197 Kq231.1
  have hk231 := Nat.le_trans hk197 Kq231.1
  have H_231 := CHv.keep Kq231 (allS (Safe.exa C172.2.1.alike f218 (by decide) (by decide)) (allS sf_o3197_197 all0)) H_197
  have R_231 := R_197.trans (CHr.keep Kq231 (allS (Safe.exa C172.2.1.alike f218 (by decide) (by decide)) (allS sf_o3197_197 all0)) H_197)
  have K231 := K197.trans Kq231 (allS (Or.inr sz_b1) (allS (Or.inr sz_o3197) all0))
  refine ret1 ?_
  refine g_callV C172 X231 (w_153 hw) (w_154 hw) (notFace_of_selects (args := #[]) (mvT C172.2.1 (w_156 hw))) (w_156 hw) (w_155 hw) (w_157 hw) (w_39 hw) f252 d6_38 [] [] 0 (rm28 hw Z231 f252 q231_0 q231_1 q231_2 q231_3 q231_4 f251 hcs p231_ll p231_c90 n232) pd_22 rfl 41 (fun u265 T265 L265 X265 hQ265 => ?_)
  obtain ⟨o4265, o3265, kd3265, rfl, Nq265, szo4265, szo3265, Kq265, q265_0, q265_1, q265_2, q265_3⟩ := hQ265
  have N265 := Fr.app N231 Nq265
  have hk265 := Nat.le_trans hk231 Kq265.1
  have H_265 := CHv.keep Kq265 all0 H_231
  have R_265 := R_231.trans (CHr.keep Kq265 all0 H_231)
  have sz_o4265 : h0.size ≤ o4265 := Nat.le_trans K231.1 szo4265
  have sz_o3265 : h0.size ≤ o3265 := Nat.le_trans K231.1 szo3265
  have K265 := K231.trans Kq265 all0
  refine ret1 ?_
  refine g_astoreN C172 X265 d6_41 42 rfl (ls' := #[iv x1, iv x2, rv o5, rv o4265]) rfl ?_
  refine g_goto C172 X265 d6_42 47 ?_
  refine g_aloadN C172 X265 d6_47 48 rfl rfl ?_
  exact g_retAH C172 X265 K hS172 hk265 hEL H_265 R_265 rfl rfl rfl d6_48 (by decide) (by decide) rfl ⟨o4265, o3265, kd3265, rfl, N265, sz_o4265, sz_o3265, K265, q265_0, q265_1, q265_2, q265_3⟩
theorem ef_37j (m : MethodId) (a1 : Int64) : entryFrame m #[(.long a1)] 2 = mkF m 0 #[jv a1, sd] [] := by first | (simp [entryFrame, mkF, argsToLocals, Value.category, iv, rv, jv, nv, uu, sd]; done) | rfl
theorem d37_0 : decode method_3_code 0 = .ok (.lload_n 0, 1) := by decide +kernel
theorem d37_1 : decode method_3_code 1 = .ok (.ldc2_w 55, 3) := by decide +kernel
theorem w_192 {Z : State} {a0 : Array Value} (hw : ∀ d ∈ tables_1, d.before a0 Z = true) : Jvm.Cond.before (Jvm.Cond.constantLong "com/example/firer/firer/formats/ParserMessagesAtPinLaw" (55 : Nat) (10 : Int64)) a0 Z = true := hw _ (List.mem_of_getElem? (i := 192) rfl)
theorem d37_4 : decode method_3_code 4 = .ok (.lcmp, 1) := by decide +kernel
theorem d37_5 : decode method_3_code 5 = .ok (.ifCond .ge 5, 3) := by decide +kernel
theorem d37_10 : decode method_3_code 10 = .ok (.lload_n 0, 1) := by decide +kernel
theorem d37_11 : decode method_3_code 11 = .ok (.ldc2_w 57, 3) := by decide +kernel
theorem w_193 {Z : State} {a0 : Array Value} (hw : ∀ d ∈ tables_1, d.before a0 Z = true) : Jvm.Cond.before (Jvm.Cond.constantLong "com/example/firer/firer/formats/ParserMessagesAtPinLaw" (57 : Nat) (100 : Int64)) a0 Z = true := hw _ (List.mem_of_getElem? (i := 193) rfl)
theorem d37_14 : decode method_3_code 14 = .ok (.lcmp, 1) := by decide +kernel
theorem d37_15 : decode method_3_code 15 = .ok (.ifCond .ge 5, 3) := by decide +kernel
theorem d37_20 : decode method_3_code 20 = .ok (.lload_n 0, 1) := by decide +kernel
theorem d37_21 : decode method_3_code 21 = .ok (.ldc2_w 59, 3) := by decide +kernel
theorem w_233 {Z : State} {a0 : Array Value} (hw : ∀ d ∈ tables_1, d.before a0 Z = true) : Jvm.Cond.before (Jvm.Cond.constantLong "com/example/firer/firer/formats/ParserMessagesAtPinLaw" (59 : Nat) (1000 : Int64)) a0 Z = true := hw _ (List.mem_of_getElem? (i := 233) rfl)
theorem d37_24 : decode method_3_code 24 = .ok (.lcmp, 1) := by decide +kernel
theorem d37_25 : decode method_3_code 25 = .ok (.ifCond .ge 5, 3) := by decide +kernel
theorem d37_30 : decode method_3_code 30 = .ok (.lload_n 0, 1) := by decide +kernel
theorem d37_31 : decode method_3_code 31 = .ok (.ldc2_w 61, 3) := by decide +kernel
theorem w_234 {Z : State} {a0 : Array Value} (hw : ∀ d ∈ tables_1, d.before a0 Z = true) : Jvm.Cond.before (Jvm.Cond.constantLong "com/example/firer/firer/formats/ParserMessagesAtPinLaw" (61 : Nat) (10000 : Int64)) a0 Z = true := hw _ (List.mem_of_getElem? (i := 234) rfl)
theorem d37_34 : decode method_3_code 34 = .ok (.lcmp, 1) := by decide +kernel
theorem d37_35 : decode method_3_code 35 = .ok (.ifCond .ge 5, 3) := by decide +kernel
theorem d37_40 : decode method_3_code 40 = .ok (.lload_n 0, 1) := by decide +kernel
theorem d37_41 : decode method_3_code 41 = .ok (.ldc2_w 63, 3) := by decide +kernel
theorem w_235 {Z : State} {a0 : Array Value} (hw : ∀ d ∈ tables_1, d.before a0 Z = true) : Jvm.Cond.before (Jvm.Cond.constantLong "com/example/firer/firer/formats/ParserMessagesAtPinLaw" (63 : Nat) (100000 : Int64)) a0 Z = true := hw _ (List.mem_of_getElem? (i := 235) rfl)
theorem d37_44 : decode method_3_code 44 = .ok (.lcmp, 1) := by decide +kernel
theorem d37_45 : decode method_3_code 45 = .ok (.ifCond .ge 5, 3) := by decide +kernel
theorem d37_50 : decode method_3_code 50 = .ok (.lload_n 0, 1) := by decide +kernel
theorem d37_51 : decode method_3_code 51 = .ok (.ldc2_w 65, 3) := by decide +kernel
theorem w_236 {Z : State} {a0 : Array Value} (hw : ∀ d ∈ tables_1, d.before a0 Z = true) : Jvm.Cond.before (Jvm.Cond.constantLong "com/example/firer/firer/formats/ParserMessagesAtPinLaw" (65 : Nat) (1000000 : Int64)) a0 Z = true := hw _ (List.mem_of_getElem? (i := 236) rfl)
theorem d37_54 : decode method_3_code 54 = .ok (.lcmp, 1) := by decide +kernel
theorem d37_55 : decode method_3_code 55 = .ok (.ifCond .ge 6, 3) := by decide +kernel
theorem d37_61 : decode method_3_code 61 = .ok (.lload_n 0, 1) := by decide +kernel
theorem d37_62 : decode method_3_code 62 = .ok (.ldc2_w 67, 3) := by decide +kernel
theorem w_237 {Z : State} {a0 : Array Value} (hw : ∀ d ∈ tables_1, d.before a0 Z = true) : Jvm.Cond.before (Jvm.Cond.constantLong "com/example/firer/firer/formats/ParserMessagesAtPinLaw" (67 : Nat) (10000000 : Int64)) a0 Z = true := hw _ (List.mem_of_getElem? (i := 237) rfl)
theorem d37_65 : decode method_3_code 65 = .ok (.lcmp, 1) := by decide +kernel
theorem d37_66 : decode method_3_code 66 = .ok (.ifCond .ge 6, 3) := by decide +kernel
theorem d37_72 : decode method_3_code 72 = .ok (.lload_n 0, 1) := by decide +kernel
theorem d37_73 : decode method_3_code 73 = .ok (.ldc2_w 69, 3) := by decide +kernel
theorem w_238 {Z : State} {a0 : Array Value} (hw : ∀ d ∈ tables_1, d.before a0 Z = true) : Jvm.Cond.before (Jvm.Cond.constantLong "com/example/firer/firer/formats/ParserMessagesAtPinLaw" (69 : Nat) (100000000 : Int64)) a0 Z = true := hw _ (List.mem_of_getElem? (i := 238) rfl)
theorem d37_76 : decode method_3_code 76 = .ok (.lcmp, 1) := by decide +kernel
theorem d37_77 : decode method_3_code 77 = .ok (.ifCond .ge 6, 3) := by decide +kernel
theorem d37_83 : decode method_3_code 83 = .ok (.lload_n 0, 1) := by decide +kernel
theorem d37_84 : decode method_3_code 84 = .ok (.ldc2_w 71, 3) := by decide +kernel
theorem w_239 {Z : State} {a0 : Array Value} (hw : ∀ d ∈ tables_1, d.before a0 Z = true) : Jvm.Cond.before (Jvm.Cond.constantLong "com/example/firer/firer/formats/ParserMessagesAtPinLaw" (71 : Nat) (1000000000 : Int64)) a0 Z = true := hw _ (List.mem_of_getElem? (i := 239) rfl)
theorem d37_87 : decode method_3_code 87 = .ok (.lcmp, 1) := by decide +kernel
theorem d37_88 : decode method_3_code 88 = .ok (.ifCond .ge 6, 3) := by decide +kernel
theorem d37_94 : decode method_3_code 94 = .ok (.bipush 10, 2) := by decide +kernel
theorem d37_96 : decode method_3_code 96 = .ok (.ireturn, 1) := by decide +kernel
theorem d37_91 : decode method_3_code 91 = .ok (.bipush 9, 2) := by decide +kernel
theorem d37_93 : decode method_3_code 93 = .ok (.ireturn, 1) := by decide +kernel
theorem d37_80 : decode method_3_code 80 = .ok (.bipush 8, 2) := by decide +kernel
theorem d37_82 : decode method_3_code 82 = .ok (.ireturn, 1) := by decide +kernel
theorem d37_69 : decode method_3_code 69 = .ok (.bipush 7, 2) := by decide +kernel
theorem d37_71 : decode method_3_code 71 = .ok (.ireturn, 1) := by decide +kernel
theorem d37_58 : decode method_3_code 58 = .ok (.bipush 6, 2) := by decide +kernel
theorem d37_60 : decode method_3_code 60 = .ok (.ireturn, 1) := by decide +kernel
theorem d37_48 : decode method_3_code 48 = .ok (.iconst 5, 1) := by decide +kernel
theorem d37_49 : decode method_3_code 49 = .ok (.ireturn, 1) := by decide +kernel
theorem d37_38 : decode method_3_code 38 = .ok (.iconst 4, 1) := by decide +kernel
theorem d37_39 : decode method_3_code 39 = .ok (.ireturn, 1) := by decide +kernel
theorem d37_28 : decode method_3_code 28 = .ok (.iconst 3, 1) := by decide +kernel
theorem d37_29 : decode method_3_code 29 = .ok (.ireturn, 1) := by decide +kernel
theorem d37_18 : decode method_3_code 18 = .ok (.iconst 2, 1) := by decide +kernel
theorem d37_19 : decode method_3_code 19 = .ok (.ireturn, 1) := by decide +kernel
theorem d37_8 : decode method_3_code 8 = .ok (.iconst 1, 1) := by decide +kernel
theorem d37_9 : decode method_3_code 9 = .ok (.ireturn, 1) := by decide +kernel
def fLen (x0 : Int64) : Int32 := if x0 < (10 : Int64) then (1 : Int32) else if x0 < (100 : Int64) then (2 : Int32) else if x0 < (1000 : Int64) then (3 : Int32) else if x0 < (10000 : Int64) then (4 : Int32) else if x0 < (100000 : Int64) then (5 : Int32) else if x0 < (1000000 : Int64) then (6 : Int32) else if x0 < (10000000 : Int64) then (7 : Int32) else if x0 < (100000000 : Int64) then (8 : Int32) else if x0 < (1000000000 : Int64) then (9 : Int32) else (10 : Int32)
abbrev y37 : MethodName := (⟨"com/example/firer/firer/formats/ParserMessagesAtPinLaw", "numLen", "(J)I"⟩ : MethodName)
theorem pn_0 : plainName "com/example/firer/firer/formats/ParserMessagesAtPinLaw" = true := by first | (simp [plainName, overriddenIn]; done) | decide +kernel
theorem rm37 {x0 : Int64} (hw : OwnW a0 Z) (Z0 : n0 ≤ h0.size) : OwnMF l Z y37 method_3_code 2 (some .int) ws ⟨0, 0, 0, 0⟩ #[(.long x0)] h0 (OwnQ (some (.int (fLen x0))) h0 n0) := by
  refine bo (plainFor_of_name pn_0) ?_
  intro p e s m below meth c T0 G C hnm hnamed X0 e0 K
  have N0 := Fr.nil n0
  refine Goes.to (congrArg T0.setTop (ef_37j m x0)) ?_
  refine g_lloadN C X0 d37_0 1 rfl ?_
  refine g_ldc2 C X0 (w_192 hw) d37_1 4 ?_
  refine g_lcmp_ge C X0 d37_4 5 d37_5 10 8 (fun hc5 => ?_) (fun hc5 => ?_)
  · refine g_lloadN C X0 d37_10 11 rfl ?_
    refine g_ldc2 C X0 (w_193 hw) d37_11 14 ?_
    refine g_lcmp_ge C X0 d37_14 15 d37_15 20 18 (fun hc15 => ?_) (fun hc15 => ?_)
    · refine g_lloadN C X0 d37_20 21 rfl ?_
      refine g_ldc2 C X0 (w_233 hw) d37_21 24 ?_
      refine g_lcmp_ge C X0 d37_24 25 d37_25 30 28 (fun hc25 => ?_) (fun hc25 => ?_)
      · refine g_lloadN C X0 d37_30 31 rfl ?_
        refine g_ldc2 C X0 (w_234 hw) d37_31 34 ?_
        refine g_lcmp_ge C X0 d37_34 35 d37_35 40 38 (fun hc35 => ?_) (fun hc35 => ?_)
        · refine g_lloadN C X0 d37_40 41 rfl ?_
          refine g_ldc2 C X0 (w_235 hw) d37_41 44 ?_
          refine g_lcmp_ge C X0 d37_44 45 d37_45 50 48 (fun hc45 => ?_) (fun hc45 => ?_)
          · refine g_lloadN C X0 d37_50 51 rfl ?_
            refine g_ldc2 C X0 (w_236 hw) d37_51 54 ?_
            refine g_lcmp_ge C X0 d37_54 55 d37_55 61 58 (fun hc55 => ?_) (fun hc55 => ?_)
            · refine g_lloadN C X0 d37_61 62 rfl ?_
              refine g_ldc2 C X0 (w_237 hw) d37_62 65 ?_
              refine g_lcmp_ge C X0 d37_65 66 d37_66 72 69 (fun hc66 => ?_) (fun hc66 => ?_)
              · refine g_lloadN C X0 d37_72 73 rfl ?_
                refine g_ldc2 C X0 (w_238 hw) d37_73 76 ?_
                refine g_lcmp_ge C X0 d37_76 77 d37_77 83 80 (fun hc77 => ?_) (fun hc77 => ?_)
                · refine g_lloadN C X0 d37_83 84 rfl ?_
                  refine g_ldc2 C X0 (w_239 hw) d37_84 87 ?_
                  refine g_lcmp_ge C X0 d37_87 88 d37_88 94 91 (fun hc88 => ?_) (fun hc88 => ?_)
                  · refine g_bipush C X0 d37_94 96 (v := 10) rfl ?_
                    exact g_retI C X0 K d37_96 (by decide) (by decide) e0 ⟨by (unfold fLen; rw [if_neg hc5, if_neg hc15, if_neg hc25, if_neg hc35, if_neg hc45, if_neg hc55, if_neg hc66, if_neg hc77, if_neg hc88]) <;> rfl, N0, rfl⟩
                  · refine g_bipush C X0 d37_91 93 (v := 9) rfl ?_
                    exact g_retI C X0 K d37_93 (by decide) (by decide) e0 ⟨by (unfold fLen; rw [if_neg hc5, if_neg hc15, if_neg hc25, if_neg hc35, if_neg hc45, if_neg hc55, if_neg hc66, if_neg hc77, if_pos hc88]) <;> rfl, N0, rfl⟩
                · refine g_bipush C X0 d37_80 82 (v := 8) rfl ?_
                  exact g_retI C X0 K d37_82 (by decide) (by decide) e0 ⟨by (unfold fLen; rw [if_neg hc5, if_neg hc15, if_neg hc25, if_neg hc35, if_neg hc45, if_neg hc55, if_neg hc66, if_pos hc77]) <;> rfl, N0, rfl⟩
              · refine g_bipush C X0 d37_69 71 (v := 7) rfl ?_
                exact g_retI C X0 K d37_71 (by decide) (by decide) e0 ⟨by (unfold fLen; rw [if_neg hc5, if_neg hc15, if_neg hc25, if_neg hc35, if_neg hc45, if_neg hc55, if_pos hc66]) <;> rfl, N0, rfl⟩
            · refine g_bipush C X0 d37_58 60 (v := 6) rfl ?_
              exact g_retI C X0 K d37_60 (by decide) (by decide) e0 ⟨by (unfold fLen; rw [if_neg hc5, if_neg hc15, if_neg hc25, if_neg hc35, if_neg hc45, if_pos hc55]) <;> rfl, N0, rfl⟩
          · refine g_iconst C X0 d37_48 49 (v := 5) rfl ?_
            exact g_retI C X0 K d37_49 (by decide) (by decide) e0 ⟨by (unfold fLen; rw [if_neg hc5, if_neg hc15, if_neg hc25, if_neg hc35, if_pos hc45]) <;> rfl, N0, rfl⟩
        · refine g_iconst C X0 d37_38 39 (v := 4) rfl ?_
          exact g_retI C X0 K d37_39 (by decide) (by decide) e0 ⟨by (unfold fLen; rw [if_neg hc5, if_neg hc15, if_neg hc25, if_pos hc35]) <;> rfl, N0, rfl⟩
      · refine g_iconst C X0 d37_28 29 (v := 3) rfl ?_
        exact g_retI C X0 K d37_29 (by decide) (by decide) e0 ⟨by (unfold fLen; rw [if_neg hc5, if_neg hc15, if_pos hc25]) <;> rfl, N0, rfl⟩
    · refine g_iconst C X0 d37_18 19 (v := 2) rfl ?_
      exact g_retI C X0 K d37_19 (by decide) (by decide) e0 ⟨by (unfold fLen; rw [if_neg hc5, if_pos hc15]) <;> rfl, N0, rfl⟩
  · refine g_iconst C X0 d37_8 9 (v := 1) rfl ?_
    exact g_retI C X0 K d37_9 (by decide) (by decide) e0 ⟨by (unfold fLen; rw [if_pos hc5]) <;> rfl, N0, rfl⟩
theorem len_eq {n : Nat} {v : Int64} (hv : v.toInt = (n : Int)) : fLen v = Int32.ofNat (dg n) := by
  have key : ∀ (k : Int64) (c : Nat), k.toInt = (c : Int) → (v < k ↔ n < c) := by intro k c hk; rw [Int64.lt_iff_toInt_lt, hv, hk]; omega
  unfold fLen dg
  simp only [key (10 : Int64) 10 (by decide), key (100 : Int64) 100 (by decide), key (1000 : Int64) 1000 (by decide), key (10000 : Int64) 10000 (by decide), key (100000 : Int64) 100000 (by decide), key (1000000 : Int64) 1000000 (by decide), key (10000000 : Int64) 10000000 (by decide), key (100000000 : Int64) 100000000 (by decide), key (1000000000 : Int64) 1000000000 (by decide)]
  repeat' split
  all_goals rfl
theorem p10_in {j : Nat} {i : Int32} (hi : Int32.ofNat j = i) (h : j < 10) : ¬ i < 0 ∧ i < (10 : Int32) := hi ▸ i_in j 10 h (by omega)
theorem p10_get {j : Nat} {i : Int32} (hi : Int32.ofNat j = i) (h : j < 10) : ([.long (1 : Int64), .long (10 : Int64), .long (100 : Int64), .long (1000 : Int64), .long (10000 : Int64), .long (100000 : Int64), .long (1000000 : Int64), .long (10000000 : Int64), .long (100000000 : Int64), .long (1000000000 : Int64)] : List Value).getD i.toNatClampNeg (.long (0 : Int64)) = .long (Int64.ofNat (10 ^ j)) := by
  subst hi; rw [i_toNat _ (by omega)]
  have hc : j = 0 ∨ j = 1 ∨ j = 2 ∨ j = 3 ∨ j = 4 ∨ j = 5 ∨ j = 6 ∨ j = 7 ∨ j = 8 ∨ j = 9 := by omega
  rcases hc with rfl | rfl | rfl | rfl | rfl | rfl | rfl | rfl | rfl | rfl <;> rfl
theorem p10_toInt {j : Nat} (h : j < 10) : (Int64.ofNat (10 ^ j)).toInt = ((10 ^ j : Nat) : Int) := by
  have hc : j = 0 ∨ j = 1 ∨ j = 2 ∨ j = 3 ∨ j = 4 ∨ j = 5 ∨ j = 6 ∨ j = 7 ∨ j = 8 ∨ j = 9 := by omega
  rcases hc with rfl | rfl | rfl | rfl | rfl | rfl | rfl | rfl | rfl | rfl <;> rfl
theorem p10_ne {j : Nat} (h : j < 10) : Int64.ofNat (10 ^ j) ≠ 0 := fun q => by
  have e := p10_toInt h
  rw [q] at e
  have : (0 : Int) = ((10 ^ j : Nat) : Int) := e
  have : 0 < 10 ^ j := Nat.pow_pos (by decide)
  omega
theorem dig_val {n j : Nat} {v : Int64} (hv : v.toInt = (n : Int)) (hn : n ≤ 2 ^ 31) (h : j < 10) : ((v / Int64.ofNat (10 ^ j)) - (v / Int64.ofNat (10 ^ j)) / (10 : Int64) * (10 : Int64)).toInt32 = Int32.ofNat (n / 10 ^ j % 10) := by
  have e1 : (v / Int64.ofNat (10 ^ j)).toInt = ((n / 10 ^ j : Nat) : Int) := by
    rw [Int64.toInt_div, hv, p10_toInt h, Int.tdiv_eq_ediv_of_nonneg (by omega), ← Int.natCast_ediv]
    have h2 : n / 10 ^ j ≤ 2 ^ 31 := Nat.le_trans (Nat.div_le_self _ _) hn
    generalize n / 10 ^ j = q at h2 ⊢
    rw [Int.bmod_eq_of_le (by omega) (by omega)]
  have hq : n / 10 ^ j ≤ 2 ^ 31 := Nat.le_trans (Nat.div_le_self _ _) hn
  generalize v / Int64.ofNat (10 ^ j) = w at e1
  generalize n / 10 ^ j = q at e1 hq
  have e2 : (w / (10 : Int64)).toInt = ((q / 10 : Nat) : Int) := by
    rw [Int64.toInt_div, e1, show (10 : Int64).toInt = 10 from rfl, Int.tdiv_eq_ediv_of_nonneg (by omega), Int.bmod_eq_of_le (by omega) (by omega)]; omega
  have e3 : (w - w / (10 : Int64) * (10 : Int64)).toInt = ((q % 10 : Nat) : Int) := by
    rw [Int64.toInt_sub, Int64.toInt_mul, e1, e2, show (10 : Int64).toInt = 10 from rfl, Int.bmod_eq_of_le (n := ((q / 10 : Nat) : Int) * 10) (by omega) (by omega), Int.bmod_eq_of_le (by omega) (by omega)]; omega
  rw [← Int32.toInt_inj, Int64.toInt_toInt32, e3, i_toInt _ (by omega), Int.bmod_eq_of_le (by omega) (by omega)]
theorem ix_lt {j d : Nat} {a b : Int32} (hj : Int32.ofNat j = a) (hd : Int32.ofNat d = b) (h1 : j < 2 ^ 31) (h2 : d < 2 ^ 31) (h : a < b) : j < d := by subst hj hd; exact (i_lt j d h1 h2).mp h
theorem dig_sub {j d : Nat} {a b : Int32} (hj : Int32.ofNat j = a) (hd : Int32.ofNat d = b) (h : j < d) : Int32.ofNat (d - 1 - j) = (b - (1 : Int32)) - a := by
  subst hj hd; rw [show (1 : Int32) = Int32.ofNat 1 from rfl, i_sub d 1 (by omega), i_sub (d - 1) j (by omega)]
theorem own_ch_fin2 : ∀ d : Fin 10, own_ch (ch d.val) = ((48 : Int32) + Int32.ofNat d.val).toUInt32.toUInt16.toUInt32.toInt32 := by decide +kernel
theorem dig_cmp {x : Int32} {d : Nat} (h : d < 10) (hx : x = ch d) : own_ch x = ((48 : Int32) + Int32.ofNat d).toUInt32.toUInt16.toUInt32.toInt32 := hx ▸ own_ch_fin2 ⟨d, h⟩
def DigAt (l : List Int32) (p n : Nat) : Prop := ∀ t, t < dg n → l.getD (p + t) 0 = ch (n / 10 ^ (dg n - 1 - t) % 10)
def TxtAt (l : List Int32) (p : Nat) (l5 : List Int32) : Prop := ∀ t, t < l5.length → l.getD (p + t) 0 = l5.getD t 0
theorem ef_44iin (m : MethodId) (a1 : Int32) (a2 : Int32) : entryFrame m #[(.int a1), (.int a2), .null] 3 = mkF m 0 #[iv a1, iv a2, nv] [] := by first | (simp [entryFrame, mkF, argsToLocals, Value.category, iv, rv, jv, nv, uu, sd]; done) | rfl
theorem d44_0 : decode jdk_41_method_11_code 0 = .ok (.iload_n 0, 1) := by decide +kernel
theorem d44_1 : decode jdk_41_method_11_code 1 = .ok (.ifCond .lt 8, 3) := by decide +kernel
theorem d44_4 : decode jdk_41_method_11_code 4 = .ok (.iload_n 0, 1) := by decide +kernel
theorem d44_5 : decode jdk_41_method_11_code 5 = .ok (.iload_n 1, 1) := by decide +kernel
theorem d44_6 : decode jdk_41_method_11_code 6 = .ok (.if_icmp .lt 10, 3) := by decide +kernel
theorem d44_16 : decode jdk_41_method_11_code 16 = .ok (.iload_n 0, 1) := by decide +kernel
theorem d44_17 : decode jdk_41_method_11_code 17 = .ok (.ireturn, 1) := by decide +kernel
abbrev y44 : MethodName := (⟨"jdk/internal/util/Preconditions", "checkIndex", "(IILjava/util/function/BiFunction;)I"⟩ : MethodName)
theorem pn_44 : plainName "jdk/internal/util/Preconditions" = true := by first | (simp [plainName, overriddenIn]; done) | decide +kernel
theorem rm44_sn {i1 bn1 : Int32} (hw : OwnW a0 Z) (Z0 : n0 ≤ h0.size) (hb1 : ¬ i1 < (0 : Int32)) (hb2 : i1 < bn1) : OwnMF l Z y44 jdk_41_method_11_code 3 (some .int) ws ⟨0, 0, 0, 0⟩ #[(.int i1), (.int bn1), .null] h0 (OwnQ (some (.int i1)) h0 n0) := by
  refine bo (plainFor_of_name pn_44) ?_
  intro p e s m below meth c T0 G C hnm hnamed X0 e0 K
  have N0 := Fr.nil n0
  refine Goes.to (congrArg T0.setTop (ef_44iin m i1 bn1)) ?_
  refine g_iloadN C X0 d44_0 1 rfl ?_
  refine g_if_lt C X0 d44_1 9 4 (fun hc1 => absurd hc1 hb1) (fun hc1 => ?_)
  refine g_iloadN C X0 d44_4 5 rfl ?_
  refine g_iloadN C X0 d44_5 6 rfl ?_
  refine g_icmp_lt C X0 d44_6 16 9 (fun hc6 => ?_) (fun hc6 => absurd hb2 hc6)
  refine g_iloadN C X0 d44_16 17 rfl ?_
  exact g_retI C X0 K d44_17 (by decide) (by decide) e0 ⟨rfl, N0, rfl⟩
theorem ef_44iir (m : MethodId) (a1 : Int32) (a2 : Int32) (a3 : Addr) : entryFrame m #[(.int a1), (.int a2), (.ref a3)] 3 = mkF m 0 #[iv a1, iv a2, rv a3] [] := by first | (simp [entryFrame, mkF, argsToLocals, Value.category, iv, rv, jv, nv, uu, sd]; done) | rfl
theorem rm44_sr {i1 bn1 : Int32} {o1 : Addr} (hw : OwnW a0 Z) (Z0 : n0 ≤ h0.size) (hb1 : ¬ i1 < (0 : Int32)) (hb2 : i1 < bn1) : OwnMF l Z y44 jdk_41_method_11_code 3 (some .int) ws ⟨0, 0, 0, 0⟩ #[(.int i1), (.int bn1), (.ref o1)] h0 (OwnQ (some (.int i1)) h0 n0) := by
  refine bo (plainFor_of_name pn_44) ?_
  intro p e s m below meth c T0 G C hnm hnamed X0 e0 K
  have N0 := Fr.nil n0
  refine Goes.to (congrArg T0.setTop (ef_44iir m i1 bn1 o1)) ?_
  refine g_iloadN C X0 d44_0 1 rfl ?_
  refine g_if_lt C X0 d44_1 9 4 (fun hc1 => absurd hc1 hb1) (fun hc1 => ?_)
  refine g_iloadN C X0 d44_4 5 rfl ?_
  refine g_iloadN C X0 d44_5 6 rfl ?_
  refine g_icmp_lt C X0 d44_6 16 9 (fun hc6 => ?_) (fun hc6 => absurd hb2 hc6)
  refine g_iloadN C X0 d44_16 17 rfl ?_
  exact g_retI C X0 K d44_17 (by decide) (by decide) e0 ⟨rfl, N0, rfl⟩
theorem ef_43ii (m : MethodId) (a1 : Int32) (a2 : Int32) : entryFrame m #[(.int a1), (.int a2)] 2 = mkF m 0 #[iv a1, iv a2] [] := by first | (simp [entryFrame, mkF, argsToLocals, Value.category, iv, rv, jv, nv, uu, sd]; done) | rfl
theorem d43_0 : decode jdk_42_method_155_code 0 = .ok (.iload_n 0, 1) := by decide +kernel
theorem d43_1 : decode jdk_42_method_155_code 1 = .ok (.iload_n 1, 1) := by decide +kernel
theorem d43_2 : decode jdk_42_method_155_code 2 = .ok (.getstatic 1053, 3) := by decide +kernel
theorem w_218 {Z : State} {a0 : Array Value} (hw : ∀ d ∈ tables_1, d.before a0 Z = true) : Jvm.Cond.before (Jvm.Cond.fieldLink "java/lang/String" (1053 : Nat) "jdk/internal/util/Preconditions" "SIOOBE_FORMATTER" "Ljava/util/function/BiFunction;") a0 Z = true := hw _ (List.mem_of_getElem? (i := 218) rfl)
theorem d43_5 : decode jdk_42_method_155_code 5 = .ok (.invokestatic 1059, 3) := by decide +kernel
theorem w_222 {Z : State} {a0 : Array Value} (hw : ∀ d ∈ tables_1, d.before a0 Z = true) : Jvm.Cond.before (Jvm.Cond.code ({ cls := "jdk/internal/util/Preconditions", name := "checkIndex", desc := "(IILjava/util/function/BiFunction;)I" } : Jvm.MethodName) jdk_41_method_11_code (3 : Nat) (Option.some Jvm.ClassFile.FieldType.int)) a0 Z = true := hw _ (List.mem_of_getElem? (i := 222) rfl)
theorem w_219 {Z : State} {a0 : Array Value} (hw : ∀ d ∈ tables_1, d.before a0 Z = true) : Jvm.Cond.before (Jvm.Cond.initialized "jdk/internal/util/Preconditions") a0 Z = true := hw _ (List.mem_of_getElem? (i := 219) rfl)
theorem w_220 {Z : State} {a0 : Array Value} (hw : ∀ d ∈ tables_1, d.before a0 Z = true) : Jvm.Cond.before (Jvm.Cond.methodLink "java/lang/String" (1059 : Nat) ({ cls := "jdk/internal/util/Preconditions", name := "checkIndex", desc := "(IILjava/util/function/BiFunction;)I" } : Jvm.MethodName)) a0 Z = true := hw _ (List.mem_of_getElem? (i := 220) rfl)
theorem pd_23 : parseMethodDescriptor "(IILjava/util/function/BiFunction;)I" = some ⟨[.int, .int, (.object "java/util/function/BiFunction")], some .int⟩ := by decide +kernel
theorem w_221 {Z : State} {a0 : Array Value} (hw : ∀ d ∈ tables_1, d.before a0 Z = true) : Jvm.Cond.before (Jvm.Cond.static ({ cls := "jdk/internal/util/Preconditions", name := "checkIndex", desc := "(IILjava/util/function/BiFunction;)I" } : Jvm.MethodName)) a0 Z = true := hw _ (List.mem_of_getElem? (i := 221) rfl)
theorem b_13 (hw : OwnW a0 Z) : CallS "java/lang/String" 1059 (⟨"jdk/internal/util/Preconditions", "checkIndex", "(IILjava/util/function/BiFunction;)I"⟩ : MethodName) jdk_41_method_11_code (3 : Nat) (Option.some Jvm.ClassFile.FieldType.int) a0 Z := ⟨(w_220 hw), (w_221 hw), (w_219 hw), (w_222 hw)⟩
theorem d43_8 : decode jdk_42_method_155_code 8 = .ok (.pop, 1) := by decide +kernel
theorem d43_9 : decode jdk_42_method_155_code 9 = .ok (.return_, 1) := by decide +kernel
abbrev y43 : MethodName := (⟨"java/lang/String", "checkIndex", "(II)V"⟩ : MethodName)
theorem rm43_s {i1 bn1 : Int32} {wf1 : Value} (hw : OwnW a0 Z) (Z0 : n0 ≤ h0.size) (F0 : OSf Z h0 wf1) (hwf : wf1.isRef = true) (hb1 : ¬ i1 < (0 : Int32)) (hb2 : i1 < bn1) : OwnMF l Z y43 jdk_42_method_155_code 2 none ws ⟨1, 0, 0, 14⟩ #[(.int i1), (.int bn1)] h0 (OwnQ none h0 n0) := by
  refine bo (plainFor_of_name pn_1) ?_
  intro p e s m below meth c T0 G C hnm hnamed X0 e0 K
  have N0 := Fr.nil n0
  refine Goes.to (congrArg T0.setTop (ef_43ii m i1 bn1)) ?_
  rcases ref_cases hwf with rfl | ⟨sa1, rfl⟩
  · refine g_iloadN C X0 d43_0 1 rfl ?_
    refine g_iloadN C X0 d43_1 2 rfl ?_
    refine g_getS C X0 (w_218 hw) Via.refl e0 F0 d43_2 5 (fun T2 X2 e2 => ?_)
    refine g_callS0 C X2 (b_13 hw) d43_5 [(.int i1), (.int bn1), .null] [] 0 (rm44_sn hw Z0 hb1 hb2) N0 pd_23 e2 8 (fun T3 _ X3 N3 e3 => ?_)
    refine g_pop C X3 d43_8 9 rfl ?_
    exact g_retV C X3 K d43_9 (by decide) (by decide) e3 ⟨rfl, N3, rfl⟩
  · refine g_iloadN C X0 d43_0 1 rfl ?_
    refine g_iloadN C X0 d43_1 2 rfl ?_
    refine g_getS C X0 (w_218 hw) Via.refl e0 F0 d43_2 5 (fun T4 X4 e4 => ?_)
    refine g_callS0 C X4 (b_13 hw) d43_5 [(.int i1), (.int bn1), (.ref sa1)] [] 0 (rm44_sr hw Z0 hb1 hb2) N0 pd_23 e4 8 (fun T5 _ X5 N5 e5 => ?_)
    refine g_pop C X5 d43_8 9 rfl ?_
    exact g_retV C X5 K d43_9 (by decide) (by decide) e5 ⟨rfl, N5, rfl⟩
theorem ef_41r (m : MethodId) (a1 : Addr) : entryFrame m #[(.ref a1)] 1 = mkF m 0 #[rv a1] [] := by first | (simp [entryFrame, mkF, argsToLocals, Value.category, iv, rv, jv, nv, uu, sd]; done) | rfl
theorem d41_0 : decode jdk_42_method_154_code 0 = .ok (.getstatic 38, 3) := by decide +kernel
theorem d41_3 : decode jdk_42_method_154_code 3 = .ok (.ifCond .eq 14, 3) := by decide +kernel
theorem d41_6 : decode jdk_42_method_154_code 6 = .ok (.aload_n 0, 1) := by decide +kernel
theorem d41_7 : decode jdk_42_method_154_code 7 = .ok (.getfield 15, 3) := by decide +kernel
theorem d41_10 : decode jdk_42_method_154_code 10 = .ok (.ifCond .ne 7, 3) := by decide +kernel
theorem d41_13 : decode jdk_42_method_154_code 13 = .ok (.iconst 1, 1) := by decide +kernel
theorem d41_14 : decode jdk_42_method_154_code 14 = .ok (.goto 4, 3) := by decide +kernel
theorem d41_18 : decode jdk_42_method_154_code 18 = .ok (.ireturn, 1) := by decide +kernel
abbrev y41 : MethodName := (⟨"java/lang/String", "isLatin1", "()Z"⟩ : MethodName)
theorem rm41 {o1 : Addr} {cs1 : Int32} (hw : OwnW a0 Z) (Z0 : n0 ≤ h0.size) (F0 : OFc Z h0 o1) (F1 : OSc Z h0 cs1) (hcs : ¬ cs1 = (0 : Int32)) : OwnMF l Z y41 jdk_42_method_154_code 1 (some .boolean) ws ⟨0, 0, 0, 0⟩ #[(.ref o1)] h0 (OwnQ (some (.int 1)) h0 n0) := by
  refine bo (plainFor_of_name pn_1) ?_
  intro p e s m below meth c T0 G C hnm hnamed X0 e0 K
  have N0 := Fr.nil n0
  refine Goes.to (congrArg T0.setTop (ef_41r m o1)) ?_
  refine g_getS C X0 (w_6 hw) Via.refl e0 F1 d41_0 3 (fun T1 X1 e1 => ?_)
  refine g_if_eq C X1 d41_3 17 6 (fun hc3 => absurd hc3 hcs) (fun hc3 => ?_)
  refine g_aloadN C X1 d41_6 7 rfl rfl ?_
  refine g_getF C X1 (w_26 hw) Via.refl e1 F0 d41_7 10 (fun T2 X2 e2 => ?_)
  refine g_if_ne C X2 d41_10 17 13 (fun hc10 => absurd hc10 (by decide)) (fun hc10 => ?_)
  refine g_iconst C X2 d41_13 14 (v := 1) rfl ?_
  refine g_goto C X2 d41_14 18 ?_
  exact g_retN C X2 K (by simp) d41_18 (by decide) (by decide) e2 ⟨rfl, N0, rfl⟩
theorem ef_42ri (m : MethodId) (a1 : Addr) (a2 : Int32) : entryFrame m #[(.ref a1), (.int a2)] 2 = mkF m 0 #[rv a1, iv a2] [] := by first | (simp [entryFrame, mkF, argsToLocals, Value.category, iv, rv, jv, nv, uu, sd]; done) | rfl
theorem d42_0 : decode jdk_43_method_2_code 0 = .ok (.iload_n 1, 1) := by decide +kernel
theorem d42_1 : decode jdk_43_method_2_code 1 = .ok (.aload_n 0, 1) := by decide +kernel
theorem d42_2 : decode jdk_43_method_2_code 2 = .ok (.arraylength, 1) := by decide +kernel
theorem d42_3 : decode jdk_43_method_2_code 3 = .ok (.invokestatic 9, 3) := by decide +kernel
theorem w_217 {Z : State} {a0 : Array Value} (hw : ∀ d ∈ tables_1, d.before a0 Z = true) : Jvm.Cond.before (Jvm.Cond.code ({ cls := "java/lang/String", name := "checkIndex", desc := "(II)V" } : Jvm.MethodName) jdk_42_method_155_code (2 : Nat) (Option.none : Option Jvm.ClassFile.FieldType)) a0 Z = true := hw _ (List.mem_of_getElem? (i := 217) rfl)
theorem w_215 {Z : State} {a0 : Array Value} (hw : ∀ d ∈ tables_1, d.before a0 Z = true) : Jvm.Cond.before (Jvm.Cond.methodLink "java/lang/StringLatin1" (9 : Nat) ({ cls := "java/lang/String", name := "checkIndex", desc := "(II)V" } : Jvm.MethodName)) a0 Z = true := hw _ (List.mem_of_getElem? (i := 215) rfl)
theorem w_216 {Z : State} {a0 : Array Value} (hw : ∀ d ∈ tables_1, d.before a0 Z = true) : Jvm.Cond.before (Jvm.Cond.static ({ cls := "java/lang/String", name := "checkIndex", desc := "(II)V" } : Jvm.MethodName)) a0 Z = true := hw _ (List.mem_of_getElem? (i := 216) rfl)
theorem b_14 (hw : OwnW a0 Z) : CallS "java/lang/StringLatin1" 9 (⟨"java/lang/String", "checkIndex", "(II)V"⟩ : MethodName) jdk_42_method_155_code (2 : Nat) (Option.none : Option Jvm.ClassFile.FieldType) a0 Z := ⟨(w_215 hw), (w_216 hw), (w_4 hw), (w_217 hw)⟩
theorem d42_6 : decode jdk_43_method_2_code 6 = .ok (.aload_n 0, 1) := by decide +kernel
theorem d42_7 : decode jdk_43_method_2_code 7 = .ok (.iload_n 1, 1) := by decide +kernel
theorem d42_8 : decode jdk_43_method_2_code 8 = .ok (.baload, 1) := by decide +kernel
theorem d42_9 : decode jdk_43_method_2_code 9 = .ok (.sipush 255, 3) := by decide +kernel
theorem d42_12 : decode jdk_43_method_2_code 12 = .ok (.iand, 1) := by decide +kernel
theorem d42_13 : decode jdk_43_method_2_code 13 = .ok (.i2c, 1) := by decide +kernel
theorem d42_14 : decode jdk_43_method_2_code 14 = .ok (.ireturn, 1) := by decide +kernel
abbrev y42 : MethodName := (⟨"java/lang/StringLatin1", "charAt", "([BI)C"⟩ : MethodName)
theorem pn_2 : plainName "java/lang/StringLatin1" = true := by first | (simp [plainName, overriddenIn]; done) | decide +kernel
theorem rm42_s {o2 : Addr} {i1 : Int32} {kd1 : ClassId} {l1 : List Int32} {j1 : Nat} {wf1 : Value} (hw : OwnW a0 Z) (Z0 : n0 ≤ h0.size) (F0 : Arv Z h0 o2 kd1 .byte (Int32.ofNat l1.length) (l1.map Value.int) (.int 0)) (F1 : OSf Z h0 wf1) (hwf : wf1.isRef = true) (hj : Int32.ofNat j1 = i1) (hl : j1 < l1.length) (hb : l1.length ≤ 1000) : OwnMF l Z y42 jdk_43_method_2_code 2 (some .char) ws ⟨2, 0, 0, 27⟩ #[(.ref o2), (.int i1)] h0 (OwnQ (some (.int (own_ch (l1.getD j1 0)))) h0 n0) := by
  refine bo (plainFor_of_name pn_2) ?_
  intro p e s m below meth c T0 G C hnm hnamed X0 e0 K
  have N0 := Fr.nil n0
  refine Goes.to (congrArg T0.setTop (ef_42ri m o2 i1)) ?_
  refine g_iloadN C X0 d42_0 1 rfl ?_
  refine g_aloadN C X0 d42_1 2 rfl rfl ?_
  refine g_arraylength C X0 e0 F0 d42_2 3 ?_
  refine g_callSn C X0 (b_14 hw) d42_3 [(.int i1), (.int (Int32.ofNat l1.length))] [] 0 (rm43_s hw Z0 F1 hwf (own_in hj hl hb).1 (own_in hj hl hb).2) N0 pd_14 e0 6 (fun T1 _ X1 N1 e1 => ?_)
  refine g_aloadN C X1 d42_6 7 rfl rfl ?_
  refine g_iloadN C X1 d42_7 8 rfl ?_
  refine g_baload C X1 e1 F0 (own_in hj hl hb) (v := (.int (l1.getD j1 0))) (own_get hj (Nat.lt_of_lt_of_le hl (Nat.le_trans hb (by decide)))) d42_8 9 ?_
  refine g_sipush C X1 d42_9 12 (v := 255) rfl ?_
  refine g_iand C X1 d42_12 13 ?_
  refine g_i2c C X1 d42_13 14 ?_
  exact g_retN C X1 K (by simp) d42_14 (by decide) (by decide) e1 ⟨rfl, N1, rfl⟩
theorem ef_40ri (m : MethodId) (a1 : Addr) (a2 : Int32) : entryFrame m #[(.ref a1), (.int a2)] 2 = mkF m 0 #[rv a1, iv a2] [] := by first | (simp [entryFrame, mkF, argsToLocals, Value.category, iv, rv, jv, nv, uu, sd]; done) | rfl
theorem d40_0 : decode jdk_42_method_56_code 0 = .ok (.aload_n 0, 1) := by decide +kernel
theorem d40_1 : decode jdk_42_method_56_code 1 = .ok (.invokevirtual 492, 3) := by decide +kernel
theorem w_211 {Z : State} {a0 : Array Value} (hw : ∀ d ∈ tables_1, d.before a0 Z = true) : Jvm.Cond.before (Jvm.Cond.code ({ cls := "java/lang/String", name := "isLatin1", desc := "()Z" } : Jvm.MethodName) jdk_42_method_154_code (1 : Nat) (Option.some Jvm.ClassFile.FieldType.boolean)) a0 Z = true := hw _ (List.mem_of_getElem? (i := 211) rfl)
theorem w_207 {Z : State} {a0 : Array Value} (hw : ∀ d ∈ tables_1, d.before a0 Z = true) : Jvm.Cond.before (Jvm.Cond.methodLink "java/lang/String" (492 : Nat) ({ cls := "java/lang/String", name := "isLatin1", desc := "()Z" } : Jvm.MethodName)) a0 Z = true := hw _ (List.mem_of_getElem? (i := 207) rfl)
theorem w_208 {Z : State} {a0 : Array Value} (hw : ∀ d ∈ tables_1, d.before a0 Z = true) : Jvm.Cond.before (Jvm.Cond.declares ({ cls := "java/lang/String", name := "isLatin1", desc := "()Z" } : Jvm.MethodName)) a0 Z = true := hw _ (List.mem_of_getElem? (i := 208) rfl)
theorem w_210 {Z : State} {a0 : Array Value} (hw : ∀ d ∈ tables_1, d.before a0 Z = true) : Jvm.Cond.before (Jvm.Cond.selects "java/lang/String" ({ cls := "java/lang/String", name := "isLatin1", desc := "()Z" } : Jvm.MethodName) ({ cls := "java/lang/String", name := "isLatin1", desc := "()Z" } : Jvm.MethodName)) a0 Z = true := hw _ (List.mem_of_getElem? (i := 210) rfl)
theorem w_209 {Z : State} {a0 : Array Value} (hw : ∀ d ∈ tables_1, d.before a0 Z = true) : Jvm.Cond.before (Jvm.Cond.instanceMethod ({ cls := "java/lang/String", name := "isLatin1", desc := "()Z" } : Jvm.MethodName)) a0 Z = true := hw _ (List.mem_of_getElem? (i := 209) rfl)
theorem b_15 (hw : OwnW a0 Z) : CallV "java/lang/String" 492 (⟨"java/lang/String", "isLatin1", "()Z"⟩ : MethodName) "java/lang/String" jdk_42_method_154_code (1 : Nat) (Option.some Jvm.ClassFile.FieldType.boolean) a0 Z := ⟨(w_207 hw), (w_208 hw), (w_210 hw), (w_209 hw), (w_211 hw), (w_4 hw)⟩
theorem d40_4 : decode jdk_42_method_56_code 4 = .ok (.ifCond .eq 12, 3) := by decide +kernel
theorem d40_7 : decode jdk_42_method_56_code 7 = .ok (.aload_n 0, 1) := by decide +kernel
theorem d40_8 : decode jdk_42_method_56_code 8 = .ok (.getfield 9, 3) := by decide +kernel
theorem d40_11 : decode jdk_42_method_56_code 11 = .ok (.iload_n 1, 1) := by decide +kernel
theorem d40_12 : decode jdk_42_method_56_code 12 = .ok (.invokestatic 495, 3) := by decide +kernel
theorem w_214 {Z : State} {a0 : Array Value} (hw : ∀ d ∈ tables_1, d.before a0 Z = true) : Jvm.Cond.before (Jvm.Cond.code ({ cls := "java/lang/StringLatin1", name := "charAt", desc := "([BI)C" } : Jvm.MethodName) jdk_43_method_2_code (2 : Nat) (Option.some Jvm.ClassFile.FieldType.char)) a0 Z = true := hw _ (List.mem_of_getElem? (i := 214) rfl)
theorem w_9 {Z : State} {a0 : Array Value} (hw : ∀ d ∈ tables_1, d.before a0 Z = true) : Jvm.Cond.before (Jvm.Cond.initialized "java/lang/StringLatin1") a0 Z = true := hw _ (List.mem_of_getElem? (i := 9) rfl)
theorem w_212 {Z : State} {a0 : Array Value} (hw : ∀ d ∈ tables_1, d.before a0 Z = true) : Jvm.Cond.before (Jvm.Cond.methodLink "java/lang/String" (495 : Nat) ({ cls := "java/lang/StringLatin1", name := "charAt", desc := "([BI)C" } : Jvm.MethodName)) a0 Z = true := hw _ (List.mem_of_getElem? (i := 212) rfl)
theorem pd_24 : parseMethodDescriptor "([BI)C" = some ⟨[(.array .byte), .int], some .char⟩ := by decide +kernel
theorem w_213 {Z : State} {a0 : Array Value} (hw : ∀ d ∈ tables_1, d.before a0 Z = true) : Jvm.Cond.before (Jvm.Cond.static ({ cls := "java/lang/StringLatin1", name := "charAt", desc := "([BI)C" } : Jvm.MethodName)) a0 Z = true := hw _ (List.mem_of_getElem? (i := 213) rfl)
theorem b_16 (hw : OwnW a0 Z) : CallS "java/lang/String" 495 (⟨"java/lang/StringLatin1", "charAt", "([BI)C"⟩ : MethodName) jdk_43_method_2_code (2 : Nat) (Option.some Jvm.ClassFile.FieldType.char) a0 Z := ⟨(w_212 hw), (w_213 hw), (w_9 hw), (w_214 hw)⟩
theorem d40_15 : decode jdk_42_method_56_code 15 = .ok (.ireturn, 1) := by decide +kernel
abbrev y40 : MethodName := (⟨"java/lang/String", "charAt", "(I)C"⟩ : MethodName)
theorem rm40_s {o1 o2 : Addr} {i1 cs1 : Int32} {kd1 : ClassId} {l1 : List Int32} {j1 : Nat} {wf1 : Value} (hw : OwnW a0 Z) (Z0 : n0 ≤ h0.size) (F0 : OEs Z h0 o1) (F1 : OFv Z h0 o1 (.ref o2)) (F2 : OFc Z h0 o1) (F3 : Arv Z h0 o2 kd1 .byte (Int32.ofNat l1.length) (l1.map Value.int) (.int 0)) (F4 : OSc Z h0 cs1) (F5 : OSf Z h0 wf1) (hcs : ¬ cs1 = (0 : Int32)) (hwf : wf1.isRef = true) (hj : Int32.ofNat j1 = i1) (hl : j1 < l1.length) (hb : l1.length ≤ 1000) : OwnMF l Z y40 jdk_42_method_56_code 2 (some .char) ws ⟨3, 0, 0, 40⟩ #[(.ref o1), (.int i1)] h0 (OwnQ (some (.int (own_ch (l1.getD j1 0)))) h0 n0) := by
  refine bo (plainFor_of_name pn_1) ?_
  intro p e s m below meth c T0 G C hnm hnamed X0 e0 K
  have N0 := Fr.nil n0
  refine Goes.to (congrArg T0.setTop (ef_40ri m o1 i1)) ?_
  refine g_aloadN C X0 d40_0 1 rfl rfl ?_
  refine g_callV0 C X0 (b_15 hw) F0 d40_1 [] [] 0 (rm41 hw Z0 F2 F4 hcs) N0 pd_11 e0 4 (fun T1 _ X1 N1 e1 => ?_)
  refine g_if_eq C X1 d40_4 16 7 (fun hc4 => absurd hc4 (by decide)) (fun hc4 => ?_)
  refine g_aloadN C X1 d40_7 8 rfl rfl ?_
  refine g_getF C X1 (w_24 hw) Via.refl e1 F1 d40_8 11 (fun T2 X2 e2 => ?_)
  refine g_iloadN C X2 d40_11 12 rfl ?_
  refine g_callS0 C X2 (b_16 hw) d40_12 [(.ref o2), (.int i1)] [] 0 (rm42_s hw Z0 F3 F5 hwf hj hl hb) N1 pd_24 e2 15 (fun T3 _ X3 N3 e3 => ?_)
  exact g_retN C X3 K (by simp) d40_15 (by decide) (by decide) e3 ⟨(by rw [own_narr]), N3, rfl⟩
theorem ef_47i (m : MethodId) (a1 : Int32) : entryFrame m #[(.int a1)] 2 = mkF m 0 #[iv a1, uu] [] := by first | (simp [entryFrame, mkF, argsToLocals, Value.category, iv, rv, jv, nv, uu, sd]; done) | rfl
theorem d47_0 : decode method_4_code 0 = .ok (.bipush 10, 2) := by decide +kernel
theorem d47_2 : decode method_4_code 2 = .ok (.newarray .long, 2) := by decide +kernel
theorem w_232 {Z : State} {a0 : Array Value} (hw : ∀ d ∈ tables_1, d.before a0 Z = true) : Jvm.Cond.before (Jvm.Cond.arrayClass Jvm.ClassFile.FieldType.long) a0 Z = true := hw _ (List.mem_of_getElem? (i := 232) rfl)
theorem d47_4 : decode method_4_code 4 = .ok (.dup, 1) := by decide +kernel
theorem d47_5 : decode method_4_code 5 = .ok (.iconst 0, 1) := by decide +kernel
theorem d47_6 : decode method_4_code 6 = .ok (.lconst 1, 1) := by decide +kernel
theorem d47_7 : decode method_4_code 7 = .ok (.lastore, 1) := by decide +kernel
theorem d47_8 : decode method_4_code 8 = .ok (.dup, 1) := by decide +kernel
theorem d47_9 : decode method_4_code 9 = .ok (.iconst 1, 1) := by decide +kernel
theorem d47_10 : decode method_4_code 10 = .ok (.ldc2_w 55, 3) := by decide +kernel
theorem d47_13 : decode method_4_code 13 = .ok (.lastore, 1) := by decide +kernel
theorem d47_14 : decode method_4_code 14 = .ok (.dup, 1) := by decide +kernel
theorem d47_15 : decode method_4_code 15 = .ok (.iconst 2, 1) := by decide +kernel
theorem d47_16 : decode method_4_code 16 = .ok (.ldc2_w 57, 3) := by decide +kernel
theorem d47_19 : decode method_4_code 19 = .ok (.lastore, 1) := by decide +kernel
theorem d47_20 : decode method_4_code 20 = .ok (.dup, 1) := by decide +kernel
theorem d47_21 : decode method_4_code 21 = .ok (.iconst 3, 1) := by decide +kernel
theorem d47_22 : decode method_4_code 22 = .ok (.ldc2_w 59, 3) := by decide +kernel
theorem d47_25 : decode method_4_code 25 = .ok (.lastore, 1) := by decide +kernel
theorem d47_26 : decode method_4_code 26 = .ok (.dup, 1) := by decide +kernel
theorem d47_27 : decode method_4_code 27 = .ok (.iconst 4, 1) := by decide +kernel
theorem d47_28 : decode method_4_code 28 = .ok (.ldc2_w 61, 3) := by decide +kernel
theorem d47_31 : decode method_4_code 31 = .ok (.lastore, 1) := by decide +kernel
theorem d47_32 : decode method_4_code 32 = .ok (.dup, 1) := by decide +kernel
theorem d47_33 : decode method_4_code 33 = .ok (.iconst 5, 1) := by decide +kernel
theorem d47_34 : decode method_4_code 34 = .ok (.ldc2_w 63, 3) := by decide +kernel
theorem d47_37 : decode method_4_code 37 = .ok (.lastore, 1) := by decide +kernel
theorem d47_38 : decode method_4_code 38 = .ok (.dup, 1) := by decide +kernel
theorem d47_39 : decode method_4_code 39 = .ok (.bipush 6, 2) := by decide +kernel
theorem d47_41 : decode method_4_code 41 = .ok (.ldc2_w 65, 3) := by decide +kernel
theorem d47_44 : decode method_4_code 44 = .ok (.lastore, 1) := by decide +kernel
theorem d47_45 : decode method_4_code 45 = .ok (.dup, 1) := by decide +kernel
theorem d47_46 : decode method_4_code 46 = .ok (.bipush 7, 2) := by decide +kernel
theorem d47_48 : decode method_4_code 48 = .ok (.ldc2_w 67, 3) := by decide +kernel
theorem d47_51 : decode method_4_code 51 = .ok (.lastore, 1) := by decide +kernel
theorem d47_52 : decode method_4_code 52 = .ok (.dup, 1) := by decide +kernel
theorem d47_53 : decode method_4_code 53 = .ok (.bipush 8, 2) := by decide +kernel
theorem d47_55 : decode method_4_code 55 = .ok (.ldc2_w 69, 3) := by decide +kernel
theorem d47_58 : decode method_4_code 58 = .ok (.lastore, 1) := by decide +kernel
theorem d47_59 : decode method_4_code 59 = .ok (.dup, 1) := by decide +kernel
theorem d47_60 : decode method_4_code 60 = .ok (.bipush 9, 2) := by decide +kernel
theorem d47_62 : decode method_4_code 62 = .ok (.ldc2_w 71, 3) := by decide +kernel
theorem d47_65 : decode method_4_code 65 = .ok (.lastore, 1) := by decide +kernel
theorem d47_66 : decode method_4_code 66 = .ok (.astore_n 1, 1) := by decide +kernel
theorem d47_67 : decode method_4_code 67 = .ok (.aload_n 1, 1) := by decide +kernel
theorem d47_68 : decode method_4_code 68 = .ok (.iload_n 0, 1) := by decide +kernel
theorem d47_69 : decode method_4_code 69 = .ok (.laload, 1) := by decide +kernel
theorem d47_70 : decode method_4_code 70 = .ok (.lreturn, 1) := by decide +kernel
def Q47 (Z : State) (i1 : Int32) (j1 : Nat) (h0 : Heap) (n0 : Nat) (v : Option Value) (h : Heap) (L : List Loc) : Prop := v = some (.long (Int64.ofNat (10 ^ j1))) ∧ Fr n0 L ∧ Keep h0 h []
abbrev y47 : MethodName := (⟨"com/example/firer/firer/formats/ParserMessagesAtPinLaw", "pow10", "(I)J"⟩ : MethodName)
theorem rm47 {i1 : Int32} {j1 : Nat} (hw : OwnW a0 Z) (Z0 : n0 ≤ h0.size) (hj : Int32.ofNat j1 = i1) (hl : j1 < 10) : OwnMF l Z y47 method_4_code 2 (some .long) ws ⟨0, 1, 10, 0⟩ #[(.int i1)] h0 (Q47 Z i1 j1 h0 n0) := by
  refine bo (plainFor_of_name pn_0) ?_
  intro p e s m below meth c T0 G C hnm hnamed X0 e0 K
  have N0 := Fr.nil n0
  refine Goes.to (congrArg T0.setTop (ef_47i m i1)) ?_
  have K00 := Keep.refl h0 []
  refine g_bipush C X0 d47_0 2 (v := 10) rfl ?_
  refine g_newA (aty := .long) (n := (10 : Int32)) C X0 (cap := 10) (w_232 hw) e0 d47_2 4 (by decide) (by decide) (by decide) (by decide) (by decide) (fun T1 h1 b1 ki1 X1 e1 g1 E1 A1 => ?_)
  have gn_b1 : n0 ≤ b1 := Nat.le_trans Z0 (Nat.le_of_eq g1.symm)
  have sz_b1 : h0.size ≤ b1 := Nat.le_trans K00.1 (Nat.le_of_eq g1.symm)
  have K1 := K00.ext E1
  have f2 : Arv Z h1 b1 ki1 .long 10 [(.long (0 : Int64)), (.long (0 : Int64)), (.long (0 : Int64)), (.long (0 : Int64)), (.long (0 : Int64)), (.long (0 : Int64)), (.long (0 : Int64)), (.long (0 : Int64)), (.long (0 : Int64)), (.long (0 : Int64))] (.long (0 : Int64)) := A1.pad (pad_rep [] (.long (0 : Int64)) 10)
  refine g_dup C X1 d47_4 5 rfl ?_
  refine g_iconst C X1 d47_5 6 (v := 0) rfl ?_
  refine g_lconst C X1 d47_6 7 (v := 1) rfl ?_
  refine g_lastore C X1 (i := 0) e1 f2 (by decide) rfl (Nat.le_of_ble_eq_true rfl) d47_7 8 (fun T3 h3 X3 e3 W3 A3 => ?_)
  have f4 : Arv Z h3 b1 ki1 .long 10 [(.long (1 : Int64)), (.long (0 : Int64)), (.long (0 : Int64)), (.long (0 : Int64)), (.long (0 : Int64)), (.long (0 : Int64)), (.long (0 : Int64)), (.long (0 : Int64)), (.long (0 : Int64)), (.long (0 : Int64))] (.long (0 : Int64)) := A3
  have N3 := Fr.snoc X3 N0 gn_b1
  have K3 := K1.wr W3 (Or.inr sz_b1)
  refine g_dup C X3 d47_8 9 rfl ?_
  refine g_iconst C X3 d47_9 10 (v := 1) rfl ?_
  refine g_ldc2 C X3 (w_192 hw) d47_10 13 ?_
  refine g_lastore C X3 (i := 1) e3 f4 (by decide) rfl (Nat.le_of_ble_eq_true rfl) d47_13 14 (fun T5 h5 X5 e5 W5 A5 => ?_)
  have f6 : Arv Z h5 b1 ki1 .long 10 [(.long (1 : Int64)), (.long (10 : Int64)), (.long (0 : Int64)), (.long (0 : Int64)), (.long (0 : Int64)), (.long (0 : Int64)), (.long (0 : Int64)), (.long (0 : Int64)), (.long (0 : Int64)), (.long (0 : Int64))] (.long (0 : Int64)) := A5
  have N5 := Fr.snoc X5 N3 gn_b1
  have K5 := K3.wr W5 (Or.inr sz_b1)
  refine g_dup C X5 d47_14 15 rfl ?_
  refine g_iconst C X5 d47_15 16 (v := 2) rfl ?_
  refine g_ldc2 C X5 (w_193 hw) d47_16 19 ?_
  refine g_lastore C X5 (i := 2) e5 f6 (by decide) rfl (Nat.le_of_ble_eq_true rfl) d47_19 20 (fun T7 h7 X7 e7 W7 A7 => ?_)
  have f8 : Arv Z h7 b1 ki1 .long 10 [(.long (1 : Int64)), (.long (10 : Int64)), (.long (100 : Int64)), (.long (0 : Int64)), (.long (0 : Int64)), (.long (0 : Int64)), (.long (0 : Int64)), (.long (0 : Int64)), (.long (0 : Int64)), (.long (0 : Int64))] (.long (0 : Int64)) := A7
  have N7 := Fr.snoc X7 N5 gn_b1
  have K7 := K5.wr W7 (Or.inr sz_b1)
  refine g_dup C X7 d47_20 21 rfl ?_
  refine g_iconst C X7 d47_21 22 (v := 3) rfl ?_
  refine g_ldc2 C X7 (w_233 hw) d47_22 25 ?_
  refine g_lastore C X7 (i := 3) e7 f8 (by decide) rfl (Nat.le_of_ble_eq_true rfl) d47_25 26 (fun T9 h9 X9 e9 W9 A9 => ?_)
  have f10 : Arv Z h9 b1 ki1 .long 10 [(.long (1 : Int64)), (.long (10 : Int64)), (.long (100 : Int64)), (.long (1000 : Int64)), (.long (0 : Int64)), (.long (0 : Int64)), (.long (0 : Int64)), (.long (0 : Int64)), (.long (0 : Int64)), (.long (0 : Int64))] (.long (0 : Int64)) := A9
  have N9 := Fr.snoc X9 N7 gn_b1
  have K9 := K7.wr W9 (Or.inr sz_b1)
  refine g_dup C X9 d47_26 27 rfl ?_
  refine g_iconst C X9 d47_27 28 (v := 4) rfl ?_
  refine g_ldc2 C X9 (w_234 hw) d47_28 31 ?_
  refine g_lastore C X9 (i := 4) e9 f10 (by decide) rfl (Nat.le_of_ble_eq_true rfl) d47_31 32 (fun T11 h11 X11 e11 W11 A11 => ?_)
  have f12 : Arv Z h11 b1 ki1 .long 10 [(.long (1 : Int64)), (.long (10 : Int64)), (.long (100 : Int64)), (.long (1000 : Int64)), (.long (10000 : Int64)), (.long (0 : Int64)), (.long (0 : Int64)), (.long (0 : Int64)), (.long (0 : Int64)), (.long (0 : Int64))] (.long (0 : Int64)) := A11
  have N11 := Fr.snoc X11 N9 gn_b1
  have K11 := K9.wr W11 (Or.inr sz_b1)
  refine g_dup C X11 d47_32 33 rfl ?_
  refine g_iconst C X11 d47_33 34 (v := 5) rfl ?_
  refine g_ldc2 C X11 (w_235 hw) d47_34 37 ?_
  refine g_lastore C X11 (i := 5) e11 f12 (by decide) rfl (Nat.le_of_ble_eq_true rfl) d47_37 38 (fun T13 h13 X13 e13 W13 A13 => ?_)
  have f14 : Arv Z h13 b1 ki1 .long 10 [(.long (1 : Int64)), (.long (10 : Int64)), (.long (100 : Int64)), (.long (1000 : Int64)), (.long (10000 : Int64)), (.long (100000 : Int64)), (.long (0 : Int64)), (.long (0 : Int64)), (.long (0 : Int64)), (.long (0 : Int64))] (.long (0 : Int64)) := A13
  have N13 := Fr.snoc X13 N11 gn_b1
  have K13 := K11.wr W13 (Or.inr sz_b1)
  refine g_dup C X13 d47_38 39 rfl ?_
  refine g_bipush C X13 d47_39 41 (v := 6) rfl ?_
  refine g_ldc2 C X13 (w_236 hw) d47_41 44 ?_
  refine g_lastore C X13 (i := 6) e13 f14 (by decide) rfl (Nat.le_of_ble_eq_true rfl) d47_44 45 (fun T15 h15 X15 e15 W15 A15 => ?_)
  have f16 : Arv Z h15 b1 ki1 .long 10 [(.long (1 : Int64)), (.long (10 : Int64)), (.long (100 : Int64)), (.long (1000 : Int64)), (.long (10000 : Int64)), (.long (100000 : Int64)), (.long (1000000 : Int64)), (.long (0 : Int64)), (.long (0 : Int64)), (.long (0 : Int64))] (.long (0 : Int64)) := A15
  have N15 := Fr.snoc X15 N13 gn_b1
  have K15 := K13.wr W15 (Or.inr sz_b1)
  refine g_dup C X15 d47_45 46 rfl ?_
  refine g_bipush C X15 d47_46 48 (v := 7) rfl ?_
  refine g_ldc2 C X15 (w_237 hw) d47_48 51 ?_
  refine g_lastore C X15 (i := 7) e15 f16 (by decide) rfl (Nat.le_of_ble_eq_true rfl) d47_51 52 (fun T17 h17 X17 e17 W17 A17 => ?_)
  have f18 : Arv Z h17 b1 ki1 .long 10 [(.long (1 : Int64)), (.long (10 : Int64)), (.long (100 : Int64)), (.long (1000 : Int64)), (.long (10000 : Int64)), (.long (100000 : Int64)), (.long (1000000 : Int64)), (.long (10000000 : Int64)), (.long (0 : Int64)), (.long (0 : Int64))] (.long (0 : Int64)) := A17
  have N17 := Fr.snoc X17 N15 gn_b1
  have K17 := K15.wr W17 (Or.inr sz_b1)
  refine g_dup C X17 d47_52 53 rfl ?_
  refine g_bipush C X17 d47_53 55 (v := 8) rfl ?_
  refine g_ldc2 C X17 (w_238 hw) d47_55 58 ?_
  refine g_lastore C X17 (i := 8) e17 f18 (by decide) rfl (Nat.le_of_ble_eq_true rfl) d47_58 59 (fun T19 h19 X19 e19 W19 A19 => ?_)
  have f20 : Arv Z h19 b1 ki1 .long 10 [(.long (1 : Int64)), (.long (10 : Int64)), (.long (100 : Int64)), (.long (1000 : Int64)), (.long (10000 : Int64)), (.long (100000 : Int64)), (.long (1000000 : Int64)), (.long (10000000 : Int64)), (.long (100000000 : Int64)), (.long (0 : Int64))] (.long (0 : Int64)) := A19
  have N19 := Fr.snoc X19 N17 gn_b1
  have K19 := K17.wr W19 (Or.inr sz_b1)
  refine g_dup C X19 d47_59 60 rfl ?_
  refine g_bipush C X19 d47_60 62 (v := 9) rfl ?_
  refine g_ldc2 C X19 (w_239 hw) d47_62 65 ?_
  refine g_lastore C X19 (i := 9) e19 f20 (by decide) rfl (Nat.le_of_ble_eq_true rfl) d47_65 66 (fun T21 h21 X21 e21 W21 A21 => ?_)
  have f22 : Arv Z h21 b1 ki1 .long 10 [(.long (1 : Int64)), (.long (10 : Int64)), (.long (100 : Int64)), (.long (1000 : Int64)), (.long (10000 : Int64)), (.long (100000 : Int64)), (.long (1000000 : Int64)), (.long (10000000 : Int64)), (.long (100000000 : Int64)), (.long (1000000000 : Int64))] (.long (0 : Int64)) := A21
  have N21 := Fr.snoc X21 N19 gn_b1
  have K21 := K19.wr W21 (Or.inr sz_b1)
  refine g_astoreN C X21 d47_66 67 rfl (ls' := #[iv i1, rv b1]) rfl ?_
  refine g_aloadN C X21 d47_67 68 rfl rfl ?_
  refine g_iloadN C X21 d47_68 69 rfl ?_
  refine g_laload C X21 e21 f22 (p10_in hj hl) (v := (.long (Int64.ofNat (10 ^ j1)))) (p10_get hj hl) d47_69 70 ?_
  exact g_retJ C X21 K d47_70 (by decide) (by decide) e21 ⟨rfl, N21, K21⟩
theorem ef_46rijii (m : MethodId) (a1 : Addr) (a2 : Int32) (a3 : Int64) (a4 : Int32) (a5 : Int32) : entryFrame m #[(.ref a1), (.int a2), (.long a3), (.int a4), (.int a5)] 7 = mkF m 0 #[rv a1, iv a2, jv a3, sd, iv a4, iv a5, uu] [] := by first | (simp [entryFrame, mkF, argsToLocals, Value.category, iv, rv, jv, nv, uu, sd]; done) | rfl
theorem d46_0 : decode method_5_code 0 = .ok (.iload 5, 2) := by decide +kernel
theorem d46_2 : decode method_5_code 2 = .ok (.iload 4, 2) := by decide +kernel
theorem d46_4 : decode method_5_code 4 = .ok (.if_icmp .lt 5, 3) := by decide +kernel
theorem d46_9 : decode method_5_code 9 = .ok (.lload_n 2, 1) := by decide +kernel
theorem d46_10 : decode method_5_code 10 = .ok (.iload 4, 2) := by decide +kernel
theorem d46_12 : decode method_5_code 12 = .ok (.iconst 1, 1) := by decide +kernel
theorem d46_13 : decode method_5_code 13 = .ok (.isub, 1) := by decide +kernel
theorem d46_14 : decode method_5_code 14 = .ok (.iload 5, 2) := by decide +kernel
theorem d46_16 : decode method_5_code 16 = .ok (.isub, 1) := by decide +kernel
theorem d46_17 : decode method_5_code 17 = .ok (.invokestatic 73, 3) := by decide +kernel
theorem w_231 {Z : State} {a0 : Array Value} (hw : ∀ d ∈ tables_1, d.before a0 Z = true) : Jvm.Cond.before (Jvm.Cond.code ({ cls := "com/example/firer/firer/formats/ParserMessagesAtPinLaw", name := "pow10", desc := "(I)J" } : Jvm.MethodName) method_4_code (2 : Nat) (Option.some Jvm.ClassFile.FieldType.long)) a0 Z = true := hw _ (List.mem_of_getElem? (i := 231) rfl)
theorem w_190 {Z : State} {a0 : Array Value} (hw : ∀ d ∈ tables_1, d.before a0 Z = true) : Jvm.Cond.before (Jvm.Cond.initialized "com/example/firer/firer/formats/ParserMessagesAtPinLaw") a0 Z = true := hw _ (List.mem_of_getElem? (i := 190) rfl)
theorem w_229 {Z : State} {a0 : Array Value} (hw : ∀ d ∈ tables_1, d.before a0 Z = true) : Jvm.Cond.before (Jvm.Cond.methodLink "com/example/firer/firer/formats/ParserMessagesAtPinLaw" (73 : Nat) ({ cls := "com/example/firer/firer/formats/ParserMessagesAtPinLaw", name := "pow10", desc := "(I)J" } : Jvm.MethodName)) a0 Z = true := hw _ (List.mem_of_getElem? (i := 229) rfl)
theorem pd_25 : parseMethodDescriptor "(I)J" = some ⟨[.int], some .long⟩ := by decide +kernel
theorem w_230 {Z : State} {a0 : Array Value} (hw : ∀ d ∈ tables_1, d.before a0 Z = true) : Jvm.Cond.before (Jvm.Cond.static ({ cls := "com/example/firer/firer/formats/ParserMessagesAtPinLaw", name := "pow10", desc := "(I)J" } : Jvm.MethodName)) a0 Z = true := hw _ (List.mem_of_getElem? (i := 230) rfl)
theorem d46_20 : decode method_5_code 20 = .ok (.ldiv, 1) := by decide +kernel
theorem d46_21 : decode method_5_code 21 = .ok (.ldc2_w 55, 3) := by decide +kernel
theorem d46_24 : decode method_5_code 24 = .ok (.lrem, 1) := by decide +kernel
theorem d46_25 : decode method_5_code 25 = .ok (.l2i, 1) := by decide +kernel
theorem d46_26 : decode method_5_code 26 = .ok (.istore 6, 2) := by decide +kernel
theorem d46_28 : decode method_5_code 28 = .ok (.aload_n 0, 1) := by decide +kernel
theorem d46_29 : decode method_5_code 29 = .ok (.iload_n 1, 1) := by decide +kernel
theorem d46_30 : decode method_5_code 30 = .ok (.iload 5, 2) := by decide +kernel
theorem d46_32 : decode method_5_code 32 = .ok (.iadd, 1) := by decide +kernel
theorem d46_33 : decode method_5_code 33 = .ok (.invokevirtual 49, 3) := by decide +kernel
theorem w_206 {Z : State} {a0 : Array Value} (hw : ∀ d ∈ tables_1, d.before a0 Z = true) : Jvm.Cond.before (Jvm.Cond.code ({ cls := "java/lang/String", name := "charAt", desc := "(I)C" } : Jvm.MethodName) jdk_42_method_56_code (2 : Nat) (Option.some Jvm.ClassFile.FieldType.char)) a0 Z = true := hw _ (List.mem_of_getElem? (i := 206) rfl)
theorem w_202 {Z : State} {a0 : Array Value} (hw : ∀ d ∈ tables_1, d.before a0 Z = true) : Jvm.Cond.before (Jvm.Cond.methodLink "com/example/firer/firer/formats/ParserMessagesAtPinLaw" (49 : Nat) ({ cls := "java/lang/String", name := "charAt", desc := "(I)C" } : Jvm.MethodName)) a0 Z = true := hw _ (List.mem_of_getElem? (i := 202) rfl)
theorem pd_26 : parseMethodDescriptor "(I)C" = some ⟨[.int], some .char⟩ := by decide +kernel
theorem w_203 {Z : State} {a0 : Array Value} (hw : ∀ d ∈ tables_1, d.before a0 Z = true) : Jvm.Cond.before (Jvm.Cond.declares ({ cls := "java/lang/String", name := "charAt", desc := "(I)C" } : Jvm.MethodName)) a0 Z = true := hw _ (List.mem_of_getElem? (i := 203) rfl)
theorem w_205 {Z : State} {a0 : Array Value} (hw : ∀ d ∈ tables_1, d.before a0 Z = true) : Jvm.Cond.before (Jvm.Cond.selects "java/lang/String" ({ cls := "java/lang/String", name := "charAt", desc := "(I)C" } : Jvm.MethodName) ({ cls := "java/lang/String", name := "charAt", desc := "(I)C" } : Jvm.MethodName)) a0 Z = true := hw _ (List.mem_of_getElem? (i := 205) rfl)
theorem w_204 {Z : State} {a0 : Array Value} (hw : ∀ d ∈ tables_1, d.before a0 Z = true) : Jvm.Cond.before (Jvm.Cond.instanceMethod ({ cls := "java/lang/String", name := "charAt", desc := "(I)C" } : Jvm.MethodName)) a0 Z = true := hw _ (List.mem_of_getElem? (i := 204) rfl)
theorem b_17 (hw : OwnW a0 Z) : CallV "com/example/firer/firer/formats/ParserMessagesAtPinLaw" 49 (⟨"java/lang/String", "charAt", "(I)C"⟩ : MethodName) "java/lang/String" jdk_42_method_56_code (2 : Nat) (Option.some Jvm.ClassFile.FieldType.char) a0 Z := ⟨(w_202 hw), (w_203 hw), (w_205 hw), (w_204 hw), (w_206 hw), (w_4 hw)⟩
theorem d46_36 : decode method_5_code 36 = .ok (.bipush 48, 2) := by decide +kernel
theorem d46_38 : decode method_5_code 38 = .ok (.iload 6, 2) := by decide +kernel
theorem d46_40 : decode method_5_code 40 = .ok (.iadd, 1) := by decide +kernel
theorem d46_41 : decode method_5_code 41 = .ok (.i2c, 1) := by decide +kernel
theorem d46_42 : decode method_5_code 42 = .ok (.if_icmp .ne 7, 3) := by decide +kernel
theorem d46_45 : decode method_5_code 45 = .ok (.iconst 1, 1) := by decide +kernel
theorem d46_46 : decode method_5_code 46 = .ok (.goto 4, 3) := by decide +kernel
theorem d46_50 : decode method_5_code 50 = .ok (.ireturn, 1) := by decide +kernel
theorem d46_7 : decode method_5_code 7 = .ok (.iconst 1, 1) := by decide +kernel
theorem d46_8 : decode method_5_code 8 = .ok (.ireturn, 1) := by decide +kernel
def Q46 (Z : State) (o1 : Addr) (i1 : Int32) (x1 : Int64) (i2 : Int32) (i3 : Int32) (o2 : Addr) (kd1 : ClassId) (l1 : List Int32) (p1 : Nat) (nn1 : Nat) (cs1 : Int32) (wf1 : Value) (j1 : Nat) (h0 : Heap) (n0 : Nat) (v : Option Value) (h : Heap) (L : List Loc) : Prop := v = some (.int 1) ∧ Fr n0 L ∧ Keep h0 h []
abbrev y46 : MethodName := (⟨"com/example/firer/firer/formats/ParserMessagesAtPinLaw", "dig", "(Ljava/lang/String;IJII)Z"⟩ : MethodName)
theorem rm46 {o1 o2 : Addr} {i1 i2 i3 cs1 : Int32} {x1 : Int64} {kd1 : ClassId} {l1 : List Int32} {p1 nn1 j1 : Nat} {wf1 : Value} (hw : OwnW a0 Z) (Z0 : n0 ≤ h0.size) (F0 : OEs Z h0 o1) (F1 : OFv Z h0 o1 (.ref o2)) (F2 : OFc Z h0 o1) (F3 : Arv Z h0 o2 kd1 .byte (Int32.ofNat l1.length) (l1.map Value.int) (.int 0)) (F4 : OSc Z h0 cs1) (F5 : OSf Z h0 wf1) (hcs : ¬ cs1 = (0 : Int32)) (hwf : wf1.isRef = true) (hp : Int32.ofNat p1 = i1) (hv : x1.toInt = (nn1 : Int)) (hd : Int32.ofNat (dg nn1) = i2) (hn : nn1 ≤ 2 ^ 31) (ht : DigAt l1 p1 nn1) (hf : p1 + dg nn1 ≤ l1.length) (hb : l1.length ≤ 45) (hj : Int32.ofNat j1 = i3) (h10 : j1 < 10) : OwnMF l Z y46 method_5_code 7 (some .boolean) ws ⟨4, 1, 10, 53⟩ #[(.ref o1), (.int i1), (.long x1), (.int i2), (.int i3)] h0 (Q46 Z o1 i1 x1 i2 i3 o2 kd1 l1 p1 nn1 cs1 wf1 j1 h0 n0) := by
  refine bo (plainFor_of_name pn_0) ?_
  intro p e s m below meth c T0 G C hnm hnamed X0 e0 K
  have N0 := Fr.nil n0
  refine Goes.to (congrArg T0.setTop (ef_46rijii m o1 i1 x1 i2 i3)) ?_
  have K00 := Keep.refl h0 []
  refine g_iload C X0 d46_0 2 rfl ?_
  refine g_iload C X0 d46_2 4 rfl ?_
  refine g_icmp_lt C X0 d46_4 9 7 (fun hc4 => ?_) (fun hc4 => ?_)
  · refine g_lloadN C X0 d46_9 10 rfl ?_
    refine g_iload C X0 d46_10 12 rfl ?_
    refine g_iconst C X0 d46_12 13 (v := 1) rfl ?_
    refine g_isub C X0 d46_13 14 ?_
    refine g_iload C X0 d46_14 16 rfl ?_
    refine g_isub C X0 d46_16 17 ?_
    refine g_callS C X0 (w_229 hw) (w_230 hw) (w_190 hw) (w_231 hw) d46_17 [(.int ((i2 - (1 : Int32)) - i3))] [(.long x1)] 2 (rm47 hw Z0 (dig_sub hj hd (ix_lt hj hd (Nat.lt_trans h10 (by decide)) (Nat.lt_of_le_of_lt (dg_pos nn1).2 (by decide)) hc4)) (show (dg nn1 - 1 - j1) < 10 from by have := (dg_pos nn1).2; omega)) pd_25 e0 20 (fun u1 T1 L1 X1 hQ1 => ?_)
    obtain ⟨rfl, Nq1, Kq1⟩ := hQ1
    have N1 := Fr.app N0 Nq1
    have f2 := F0.keep Kq1
    have f3 := F1.keep Kq1 nin0
    have f4 := F2.keep Kq1 nin0
    have f5 := F3.keep Kq1 nin0
    have f6 := Sta.keepN F4 Kq1 all0
    have f7 := Sta.keepN F5 Kq1 all0
    have Z1 := Nat.le_trans Z0 Kq1.1
    have K1 := K00.trans Kq1 all0
    refine ret1 ?_
    refine g_ldiv C X1 d46_20 21 (p10_ne (show (dg nn1 - 1 - j1) < 10 from by have := (dg_pos nn1).2; omega)) ?_
    refine g_ldc2 C X1 (w_192 hw) d46_21 24 ?_
    refine g_lrem C X1 d46_24 25 (by decide) ?_
    refine g_l2i C X1 d46_25 26 ?_
    rw [dig_val hv hn (show (dg nn1 - 1 - j1) < 10 from by have := (dg_pos nn1).2; omega)]
    refine g_istore C X1 d46_26 28 (w := (Int32.ofNat (nn1 / 10 ^ (dg nn1 - 1 - j1) % 10))) rfl (ls' := #[rv o1, iv i1, jv x1, sd, iv i2, iv i3, iv (Int32.ofNat (nn1 / 10 ^ (dg nn1 - 1 - j1) % 10))]) rfl ?_
    refine g_aloadN C X1 d46_28 29 rfl rfl ?_
    refine g_iloadN C X1 d46_29 30 rfl ?_
    refine g_iload C X1 d46_30 32 rfl ?_
    refine g_iadd C X1 d46_32 33 ?_
    refine g_callV0 C X1 (b_17 hw) f2 d46_33 [(.int (i1 + i3))] [] 0 (rm40_s hw Z1 f2 f3 f4 f5 f6 f7 hcs hwf (show Int32.ofNat (p1 + j1) = i1 + i3 from by rw [← i_add, hp, hj]) (by have := (ix_lt hj hd (Nat.lt_trans h10 (by decide)) (Nat.lt_of_le_of_lt (dg_pos nn1).2 (by decide)) hc4); omega) (by omega)) N1 pd_26 rfl 36 (fun T8 _ X8 N8 e8 => ?_)
    refine g_bipush C X8 d46_36 38 (v := 48) rfl ?_
    refine g_iload C X8 d46_38 40 rfl ?_
    refine g_iadd C X8 d46_40 41 ?_
    refine g_i2c C X8 d46_41 42 ?_
    refine g_icmp_ne C X8 d46_42 49 45 (fun hc42 => absurd (dig_cmp (Nat.mod_lt _ (by decide)) (ht _ (ix_lt hj hd (Nat.lt_trans h10 (by decide)) (Nat.lt_of_le_of_lt (dg_pos nn1).2 (by decide)) hc4))) hc42) (fun hc42 => ?_)
    refine g_iconst C X8 d46_45 46 (v := 1) rfl ?_
    refine g_goto C X8 d46_46 50 ?_
    exact g_retN C X8 K (by simp) d46_50 (by decide) (by decide) e8 ⟨rfl, N8, K1⟩
  · refine g_iconst C X0 d46_7 8 (v := 1) rfl ?_
    exact g_retN C X0 K (by simp) d46_8 (by decide) (by decide) e0 ⟨rfl, N0, K00⟩
theorem ef_45riji (m : MethodId) (a1 : Addr) (a2 : Int32) (a3 : Int64) (a4 : Int32) : entryFrame m #[(.ref a1), (.int a2), (.long a3), (.int a4)] 5 = mkF m 0 #[rv a1, iv a2, jv a3, sd, iv a4] [] := by first | (simp [entryFrame, mkF, argsToLocals, Value.category, iv, rv, jv, nv, uu, sd]; done) | rfl
theorem d45_0 : decode method_6_code 0 = .ok (.aload_n 0, 1) := by decide +kernel
theorem d45_1 : decode method_6_code 1 = .ok (.iload_n 1, 1) := by decide +kernel
theorem d45_2 : decode method_6_code 2 = .ok (.lload_n 2, 1) := by decide +kernel
theorem d45_3 : decode method_6_code 3 = .ok (.iload 4, 2) := by decide +kernel
theorem d45_5 : decode method_6_code 5 = .ok (.iconst 0, 1) := by decide +kernel
theorem d45_6 : decode method_6_code 6 = .ok (.invokestatic 77, 3) := by decide +kernel
theorem w_228 {Z : State} {a0 : Array Value} (hw : ∀ d ∈ tables_1, d.before a0 Z = true) : Jvm.Cond.before (Jvm.Cond.code ({ cls := "com/example/firer/firer/formats/ParserMessagesAtPinLaw", name := "dig", desc := "(Ljava/lang/String;IJII)Z" } : Jvm.MethodName) method_5_code (7 : Nat) (Option.some Jvm.ClassFile.FieldType.boolean)) a0 Z = true := hw _ (List.mem_of_getElem? (i := 228) rfl)
theorem w_226 {Z : State} {a0 : Array Value} (hw : ∀ d ∈ tables_1, d.before a0 Z = true) : Jvm.Cond.before (Jvm.Cond.methodLink "com/example/firer/firer/formats/ParserMessagesAtPinLaw" (77 : Nat) ({ cls := "com/example/firer/firer/formats/ParserMessagesAtPinLaw", name := "dig", desc := "(Ljava/lang/String;IJII)Z" } : Jvm.MethodName)) a0 Z = true := hw _ (List.mem_of_getElem? (i := 226) rfl)
theorem pd_27 : parseMethodDescriptor "(Ljava/lang/String;IJII)Z" = some ⟨[(.object "java/lang/String"), .int, .long, .int, .int], some .boolean⟩ := by decide +kernel
theorem w_227 {Z : State} {a0 : Array Value} (hw : ∀ d ∈ tables_1, d.before a0 Z = true) : Jvm.Cond.before (Jvm.Cond.static ({ cls := "com/example/firer/firer/formats/ParserMessagesAtPinLaw", name := "dig", desc := "(Ljava/lang/String;IJII)Z" } : Jvm.MethodName)) a0 Z = true := hw _ (List.mem_of_getElem? (i := 227) rfl)
theorem d45_9 : decode method_6_code 9 = .ok (.ifCond .eq 119, 3) := by decide +kernel
theorem d45_12 : decode method_6_code 12 = .ok (.aload_n 0, 1) := by decide +kernel
theorem d45_13 : decode method_6_code 13 = .ok (.iload_n 1, 1) := by decide +kernel
theorem d45_14 : decode method_6_code 14 = .ok (.lload_n 2, 1) := by decide +kernel
theorem d45_15 : decode method_6_code 15 = .ok (.iload 4, 2) := by decide +kernel
theorem d45_17 : decode method_6_code 17 = .ok (.iconst 1, 1) := by decide +kernel
theorem d45_18 : decode method_6_code 18 = .ok (.invokestatic 77, 3) := by decide +kernel
theorem d45_21 : decode method_6_code 21 = .ok (.ifCond .eq 107, 3) := by decide +kernel
theorem d45_24 : decode method_6_code 24 = .ok (.aload_n 0, 1) := by decide +kernel
theorem d45_25 : decode method_6_code 25 = .ok (.iload_n 1, 1) := by decide +kernel
theorem d45_26 : decode method_6_code 26 = .ok (.lload_n 2, 1) := by decide +kernel
theorem d45_27 : decode method_6_code 27 = .ok (.iload 4, 2) := by decide +kernel
theorem d45_29 : decode method_6_code 29 = .ok (.iconst 2, 1) := by decide +kernel
theorem d45_30 : decode method_6_code 30 = .ok (.invokestatic 77, 3) := by decide +kernel
theorem d45_33 : decode method_6_code 33 = .ok (.ifCond .eq 95, 3) := by decide +kernel
theorem d45_36 : decode method_6_code 36 = .ok (.aload_n 0, 1) := by decide +kernel
theorem d45_37 : decode method_6_code 37 = .ok (.iload_n 1, 1) := by decide +kernel
theorem d45_38 : decode method_6_code 38 = .ok (.lload_n 2, 1) := by decide +kernel
theorem d45_39 : decode method_6_code 39 = .ok (.iload 4, 2) := by decide +kernel
theorem d45_41 : decode method_6_code 41 = .ok (.iconst 3, 1) := by decide +kernel
theorem d45_42 : decode method_6_code 42 = .ok (.invokestatic 77, 3) := by decide +kernel
theorem d45_45 : decode method_6_code 45 = .ok (.ifCond .eq 83, 3) := by decide +kernel
theorem d45_48 : decode method_6_code 48 = .ok (.aload_n 0, 1) := by decide +kernel
theorem d45_49 : decode method_6_code 49 = .ok (.iload_n 1, 1) := by decide +kernel
theorem d45_50 : decode method_6_code 50 = .ok (.lload_n 2, 1) := by decide +kernel
theorem d45_51 : decode method_6_code 51 = .ok (.iload 4, 2) := by decide +kernel
theorem d45_53 : decode method_6_code 53 = .ok (.iconst 4, 1) := by decide +kernel
theorem d45_54 : decode method_6_code 54 = .ok (.invokestatic 77, 3) := by decide +kernel
theorem d45_57 : decode method_6_code 57 = .ok (.ifCond .eq 71, 3) := by decide +kernel
theorem d45_60 : decode method_6_code 60 = .ok (.aload_n 0, 1) := by decide +kernel
theorem d45_61 : decode method_6_code 61 = .ok (.iload_n 1, 1) := by decide +kernel
theorem d45_62 : decode method_6_code 62 = .ok (.lload_n 2, 1) := by decide +kernel
theorem d45_63 : decode method_6_code 63 = .ok (.iload 4, 2) := by decide +kernel
theorem d45_65 : decode method_6_code 65 = .ok (.iconst 5, 1) := by decide +kernel
theorem d45_66 : decode method_6_code 66 = .ok (.invokestatic 77, 3) := by decide +kernel
theorem d45_69 : decode method_6_code 69 = .ok (.ifCond .eq 59, 3) := by decide +kernel
theorem d45_72 : decode method_6_code 72 = .ok (.aload_n 0, 1) := by decide +kernel
theorem d45_73 : decode method_6_code 73 = .ok (.iload_n 1, 1) := by decide +kernel
theorem d45_74 : decode method_6_code 74 = .ok (.lload_n 2, 1) := by decide +kernel
theorem d45_75 : decode method_6_code 75 = .ok (.iload 4, 2) := by decide +kernel
theorem d45_77 : decode method_6_code 77 = .ok (.bipush 6, 2) := by decide +kernel
theorem d45_79 : decode method_6_code 79 = .ok (.invokestatic 77, 3) := by decide +kernel
theorem d45_82 : decode method_6_code 82 = .ok (.ifCond .eq 46, 3) := by decide +kernel
theorem d45_85 : decode method_6_code 85 = .ok (.aload_n 0, 1) := by decide +kernel
theorem d45_86 : decode method_6_code 86 = .ok (.iload_n 1, 1) := by decide +kernel
theorem d45_87 : decode method_6_code 87 = .ok (.lload_n 2, 1) := by decide +kernel
theorem d45_88 : decode method_6_code 88 = .ok (.iload 4, 2) := by decide +kernel
theorem d45_90 : decode method_6_code 90 = .ok (.bipush 7, 2) := by decide +kernel
theorem d45_92 : decode method_6_code 92 = .ok (.invokestatic 77, 3) := by decide +kernel
theorem d45_95 : decode method_6_code 95 = .ok (.ifCond .eq 33, 3) := by decide +kernel
theorem d45_98 : decode method_6_code 98 = .ok (.aload_n 0, 1) := by decide +kernel
theorem d45_99 : decode method_6_code 99 = .ok (.iload_n 1, 1) := by decide +kernel
theorem d45_100 : decode method_6_code 100 = .ok (.lload_n 2, 1) := by decide +kernel
theorem d45_101 : decode method_6_code 101 = .ok (.iload 4, 2) := by decide +kernel
theorem d45_103 : decode method_6_code 103 = .ok (.bipush 8, 2) := by decide +kernel
theorem d45_105 : decode method_6_code 105 = .ok (.invokestatic 77, 3) := by decide +kernel
theorem d45_108 : decode method_6_code 108 = .ok (.ifCond .eq 20, 3) := by decide +kernel
theorem d45_111 : decode method_6_code 111 = .ok (.aload_n 0, 1) := by decide +kernel
theorem d45_112 : decode method_6_code 112 = .ok (.iload_n 1, 1) := by decide +kernel
theorem d45_113 : decode method_6_code 113 = .ok (.lload_n 2, 1) := by decide +kernel
theorem d45_114 : decode method_6_code 114 = .ok (.iload 4, 2) := by decide +kernel
theorem d45_116 : decode method_6_code 116 = .ok (.bipush 9, 2) := by decide +kernel
theorem d45_118 : decode method_6_code 118 = .ok (.invokestatic 77, 3) := by decide +kernel
theorem d45_121 : decode method_6_code 121 = .ok (.ifCond .eq 7, 3) := by decide +kernel
theorem d45_124 : decode method_6_code 124 = .ok (.iconst 1, 1) := by decide +kernel
theorem d45_125 : decode method_6_code 125 = .ok (.goto 4, 3) := by decide +kernel
theorem d45_129 : decode method_6_code 129 = .ok (.ireturn, 1) := by decide +kernel
def Q45 (Z : State) (o1 : Addr) (i1 : Int32) (x1 : Int64) (i2 : Int32) (o2 : Addr) (kd1 : ClassId) (l1 : List Int32) (p1 : Nat) (nn1 : Nat) (cs1 : Int32) (wf1 : Value) (h0 : Heap) (n0 : Nat) (v : Option Value) (h : Heap) (L : List Loc) : Prop := v = some (.int 1) ∧ Fr n0 L ∧ Keep h0 h []
abbrev y45 : MethodName := (⟨"com/example/firer/firer/formats/ParserMessagesAtPinLaw", "digitsAt", "(Ljava/lang/String;IJI)Z"⟩ : MethodName)
theorem rm45 {o1 o2 : Addr} {i1 i2 cs1 : Int32} {x1 : Int64} {kd1 : ClassId} {l1 : List Int32} {p1 nn1 : Nat} {wf1 : Value} (hw : OwnW a0 Z) (Z0 : n0 ≤ h0.size) (F0 : OEs Z h0 o1) (F1 : OFv Z h0 o1 (.ref o2)) (F2 : OFc Z h0 o1) (F3 : Arv Z h0 o2 kd1 .byte (Int32.ofNat l1.length) (l1.map Value.int) (.int 0)) (F4 : OSc Z h0 cs1) (F5 : OSf Z h0 wf1) (hcs : ¬ cs1 = (0 : Int32)) (hwf : wf1.isRef = true) (hp : Int32.ofNat p1 = i1) (hv : x1.toInt = (nn1 : Int)) (hd : Int32.ofNat (dg nn1) = i2) (hn : nn1 ≤ 2 ^ 31) (ht : DigAt l1 p1 nn1) (hf : p1 + dg nn1 ≤ l1.length) (hb : l1.length ≤ 45) : OwnMF l Z y45 method_6_code 5 (some .boolean) ws ⟨5, 10, 100, 71⟩ #[(.ref o1), (.int i1), (.long x1), (.int i2)] h0 (Q45 Z o1 i1 x1 i2 o2 kd1 l1 p1 nn1 cs1 wf1 h0 n0) := by
  refine bo (plainFor_of_name pn_0) ?_
  intro p e s m below meth c T0 G C hnm hnamed X0 e0 K
  have N0 := Fr.nil n0
  refine Goes.to (congrArg T0.setTop (ef_45riji m o1 i1 x1 i2)) ?_
  have K00 := Keep.refl h0 []
  refine g_aloadN C X0 d45_0 1 rfl rfl ?_
  refine g_iloadN C X0 d45_1 2 rfl ?_
  refine g_lloadN C X0 d45_2 3 rfl ?_
  refine g_iload C X0 d45_3 5 rfl ?_
  refine g_iconst C X0 d45_5 6 (v := 0) rfl ?_
  refine g_callS C X0 (w_226 hw) (w_227 hw) (w_190 hw) (w_228 hw) d45_6 [(.ref o1), (.int i1), (.long x1), (.int i2), (.int 0)] [] 0 (rm46 hw Z0 F0 F1 F2 F3 F4 F5 hcs hwf hp hv hd hn ht hf hb (show Int32.ofNat 0 = _ from rfl) (by decide)) pd_27 e0 9 (fun u1 T1 L1 X1 hQ1 => ?_)
  obtain ⟨rfl, Nq1, Kq1⟩ := hQ1
  have N1 := Fr.app N0 Nq1
  have f2 := F0.keep Kq1
  have f3 := F1.keep Kq1 nin0
  have f4 := F2.keep Kq1 nin0
  have f5 := F3.keep Kq1 nin0
  have f6 := Sta.keepN F4 Kq1 all0
  have f7 := Sta.keepN F5 Kq1 all0
  have Z1 := Nat.le_trans Z0 Kq1.1
  have K1 := K00.trans Kq1 all0
  refine ret1 ?_
  refine g_if_eq C X1 d45_9 128 12 (fun hc9 => absurd hc9 (by decide)) (fun hc9 => ?_)
  refine g_aloadN C X1 d45_12 13 rfl rfl ?_
  refine g_iloadN C X1 d45_13 14 rfl ?_
  refine g_lloadN C X1 d45_14 15 rfl ?_
  refine g_iload C X1 d45_15 17 rfl ?_
  refine g_iconst C X1 d45_17 18 (v := 1) rfl ?_
  refine g_callS C X1 (w_226 hw) (w_227 hw) (w_190 hw) (w_228 hw) d45_18 [(.ref o1), (.int i1), (.long x1), (.int i2), (.int 1)] [] 0 (rm46 hw Z1 f2 f3 f4 f5 f6 f7 hcs hwf hp hv hd hn ht hf hb (show Int32.ofNat 1 = _ from rfl) (by decide)) pd_27 rfl 21 (fun u8 T8 L8 X8 hQ8 => ?_)
  obtain ⟨rfl, Nq8, Kq8⟩ := hQ8
  have N8 := Fr.app N1 Nq8
  have f9 := f2.keep Kq8
  have f10 := f3.keep Kq8 nin0
  have f11 := f4.keep Kq8 nin0
  have f12 := f5.keep Kq8 nin0
  have f13 := Sta.keepN f6 Kq8 all0
  have f14 := Sta.keepN f7 Kq8 all0
  have Z8 := Nat.le_trans Z1 Kq8.1
  have K8 := K1.trans Kq8 all0
  refine ret1 ?_
  refine g_if_eq C X8 d45_21 128 24 (fun hc21 => absurd hc21 (by decide)) (fun hc21 => ?_)
  refine g_aloadN C X8 d45_24 25 rfl rfl ?_
  refine g_iloadN C X8 d45_25 26 rfl ?_
  refine g_lloadN C X8 d45_26 27 rfl ?_
  refine g_iload C X8 d45_27 29 rfl ?_
  refine g_iconst C X8 d45_29 30 (v := 2) rfl ?_
  refine g_callS C X8 (w_226 hw) (w_227 hw) (w_190 hw) (w_228 hw) d45_30 [(.ref o1), (.int i1), (.long x1), (.int i2), (.int 2)] [] 0 (rm46 hw Z8 f9 f10 f11 f12 f13 f14 hcs hwf hp hv hd hn ht hf hb (show Int32.ofNat 2 = _ from rfl) (by decide)) pd_27 rfl 33 (fun u15 T15 L15 X15 hQ15 => ?_)
  obtain ⟨rfl, Nq15, Kq15⟩ := hQ15
  have N15 := Fr.app N8 Nq15
  have f16 := f9.keep Kq15
  have f17 := f10.keep Kq15 nin0
  have f18 := f11.keep Kq15 nin0
  have f19 := f12.keep Kq15 nin0
  have f20 := Sta.keepN f13 Kq15 all0
  have f21 := Sta.keepN f14 Kq15 all0
  have Z15 := Nat.le_trans Z8 Kq15.1
  have K15 := K8.trans Kq15 all0
  refine ret1 ?_
  refine g_if_eq C X15 d45_33 128 36 (fun hc33 => absurd hc33 (by decide)) (fun hc33 => ?_)
  refine g_aloadN C X15 d45_36 37 rfl rfl ?_
  refine g_iloadN C X15 d45_37 38 rfl ?_
  refine g_lloadN C X15 d45_38 39 rfl ?_
  refine g_iload C X15 d45_39 41 rfl ?_
  refine g_iconst C X15 d45_41 42 (v := 3) rfl ?_
  refine g_callS C X15 (w_226 hw) (w_227 hw) (w_190 hw) (w_228 hw) d45_42 [(.ref o1), (.int i1), (.long x1), (.int i2), (.int 3)] [] 0 (rm46 hw Z15 f16 f17 f18 f19 f20 f21 hcs hwf hp hv hd hn ht hf hb (show Int32.ofNat 3 = _ from rfl) (by decide)) pd_27 rfl 45 (fun u22 T22 L22 X22 hQ22 => ?_)
  obtain ⟨rfl, Nq22, Kq22⟩ := hQ22
  have N22 := Fr.app N15 Nq22
  have f23 := f16.keep Kq22
  have f24 := f17.keep Kq22 nin0
  have f25 := f18.keep Kq22 nin0
  have f26 := f19.keep Kq22 nin0
  have f27 := Sta.keepN f20 Kq22 all0
  have f28 := Sta.keepN f21 Kq22 all0
  have Z22 := Nat.le_trans Z15 Kq22.1
  have K22 := K15.trans Kq22 all0
  refine ret1 ?_
  refine g_if_eq C X22 d45_45 128 48 (fun hc45 => absurd hc45 (by decide)) (fun hc45 => ?_)
  refine g_aloadN C X22 d45_48 49 rfl rfl ?_
  refine g_iloadN C X22 d45_49 50 rfl ?_
  refine g_lloadN C X22 d45_50 51 rfl ?_
  refine g_iload C X22 d45_51 53 rfl ?_
  refine g_iconst C X22 d45_53 54 (v := 4) rfl ?_
  refine g_callS C X22 (w_226 hw) (w_227 hw) (w_190 hw) (w_228 hw) d45_54 [(.ref o1), (.int i1), (.long x1), (.int i2), (.int 4)] [] 0 (rm46 hw Z22 f23 f24 f25 f26 f27 f28 hcs hwf hp hv hd hn ht hf hb (show Int32.ofNat 4 = _ from rfl) (by decide)) pd_27 rfl 57 (fun u29 T29 L29 X29 hQ29 => ?_)
  obtain ⟨rfl, Nq29, Kq29⟩ := hQ29
  have N29 := Fr.app N22 Nq29
  have f30 := f23.keep Kq29
  have f31 := f24.keep Kq29 nin0
  have f32 := f25.keep Kq29 nin0
  have f33 := f26.keep Kq29 nin0
  have f34 := Sta.keepN f27 Kq29 all0
  have f35 := Sta.keepN f28 Kq29 all0
  have Z29 := Nat.le_trans Z22 Kq29.1
  have K29 := K22.trans Kq29 all0
  refine ret1 ?_
  refine g_if_eq C X29 d45_57 128 60 (fun hc57 => absurd hc57 (by decide)) (fun hc57 => ?_)
  refine g_aloadN C X29 d45_60 61 rfl rfl ?_
  refine g_iloadN C X29 d45_61 62 rfl ?_
  refine g_lloadN C X29 d45_62 63 rfl ?_
  refine g_iload C X29 d45_63 65 rfl ?_
  refine g_iconst C X29 d45_65 66 (v := 5) rfl ?_
  refine g_callS C X29 (w_226 hw) (w_227 hw) (w_190 hw) (w_228 hw) d45_66 [(.ref o1), (.int i1), (.long x1), (.int i2), (.int 5)] [] 0 (rm46 hw Z29 f30 f31 f32 f33 f34 f35 hcs hwf hp hv hd hn ht hf hb (show Int32.ofNat 5 = _ from rfl) (by decide)) pd_27 rfl 69 (fun u36 T36 L36 X36 hQ36 => ?_)
  obtain ⟨rfl, Nq36, Kq36⟩ := hQ36
  have N36 := Fr.app N29 Nq36
  have f37 := f30.keep Kq36
  have f38 := f31.keep Kq36 nin0
  have f39 := f32.keep Kq36 nin0
  have f40 := f33.keep Kq36 nin0
  have f41 := Sta.keepN f34 Kq36 all0
  have f42 := Sta.keepN f35 Kq36 all0
  have Z36 := Nat.le_trans Z29 Kq36.1
  have K36 := K29.trans Kq36 all0
  refine ret1 ?_
  refine g_if_eq C X36 d45_69 128 72 (fun hc69 => absurd hc69 (by decide)) (fun hc69 => ?_)
  refine g_aloadN C X36 d45_72 73 rfl rfl ?_
  refine g_iloadN C X36 d45_73 74 rfl ?_
  refine g_lloadN C X36 d45_74 75 rfl ?_
  refine g_iload C X36 d45_75 77 rfl ?_
  refine g_bipush C X36 d45_77 79 (v := 6) rfl ?_
  refine g_callS C X36 (w_226 hw) (w_227 hw) (w_190 hw) (w_228 hw) d45_79 [(.ref o1), (.int i1), (.long x1), (.int i2), (.int 6)] [] 0 (rm46 hw Z36 f37 f38 f39 f40 f41 f42 hcs hwf hp hv hd hn ht hf hb (show Int32.ofNat 6 = _ from rfl) (by decide)) pd_27 rfl 82 (fun u43 T43 L43 X43 hQ43 => ?_)
  obtain ⟨rfl, Nq43, Kq43⟩ := hQ43
  have N43 := Fr.app N36 Nq43
  have f44 := f37.keep Kq43
  have f45 := f38.keep Kq43 nin0
  have f46 := f39.keep Kq43 nin0
  have f47 := f40.keep Kq43 nin0
  have f48 := Sta.keepN f41 Kq43 all0
  have f49 := Sta.keepN f42 Kq43 all0
  have Z43 := Nat.le_trans Z36 Kq43.1
  have K43 := K36.trans Kq43 all0
  refine ret1 ?_
  refine g_if_eq C X43 d45_82 128 85 (fun hc82 => absurd hc82 (by decide)) (fun hc82 => ?_)
  refine g_aloadN C X43 d45_85 86 rfl rfl ?_
  refine g_iloadN C X43 d45_86 87 rfl ?_
  refine g_lloadN C X43 d45_87 88 rfl ?_
  refine g_iload C X43 d45_88 90 rfl ?_
  refine g_bipush C X43 d45_90 92 (v := 7) rfl ?_
  refine g_callS C X43 (w_226 hw) (w_227 hw) (w_190 hw) (w_228 hw) d45_92 [(.ref o1), (.int i1), (.long x1), (.int i2), (.int 7)] [] 0 (rm46 hw Z43 f44 f45 f46 f47 f48 f49 hcs hwf hp hv hd hn ht hf hb (show Int32.ofNat 7 = _ from rfl) (by decide)) pd_27 rfl 95 (fun u50 T50 L50 X50 hQ50 => ?_)
  obtain ⟨rfl, Nq50, Kq50⟩ := hQ50
  have N50 := Fr.app N43 Nq50
  have f51 := f44.keep Kq50
  have f52 := f45.keep Kq50 nin0
  have f53 := f46.keep Kq50 nin0
  have f54 := f47.keep Kq50 nin0
  have f55 := Sta.keepN f48 Kq50 all0
  have f56 := Sta.keepN f49 Kq50 all0
  have Z50 := Nat.le_trans Z43 Kq50.1
  have K50 := K43.trans Kq50 all0
  refine ret1 ?_
  refine g_if_eq C X50 d45_95 128 98 (fun hc95 => absurd hc95 (by decide)) (fun hc95 => ?_)
  refine g_aloadN C X50 d45_98 99 rfl rfl ?_
  refine g_iloadN C X50 d45_99 100 rfl ?_
  refine g_lloadN C X50 d45_100 101 rfl ?_
  refine g_iload C X50 d45_101 103 rfl ?_
  refine g_bipush C X50 d45_103 105 (v := 8) rfl ?_
  refine g_callS C X50 (w_226 hw) (w_227 hw) (w_190 hw) (w_228 hw) d45_105 [(.ref o1), (.int i1), (.long x1), (.int i2), (.int 8)] [] 0 (rm46 hw Z50 f51 f52 f53 f54 f55 f56 hcs hwf hp hv hd hn ht hf hb (show Int32.ofNat 8 = _ from rfl) (by decide)) pd_27 rfl 108 (fun u57 T57 L57 X57 hQ57 => ?_)
  obtain ⟨rfl, Nq57, Kq57⟩ := hQ57
  have N57 := Fr.app N50 Nq57
  have f58 := f51.keep Kq57
  have f59 := f52.keep Kq57 nin0
  have f60 := f53.keep Kq57 nin0
  have f61 := f54.keep Kq57 nin0
  have f62 := Sta.keepN f55 Kq57 all0
  have f63 := Sta.keepN f56 Kq57 all0
  have Z57 := Nat.le_trans Z50 Kq57.1
  have K57 := K50.trans Kq57 all0
  refine ret1 ?_
  refine g_if_eq C X57 d45_108 128 111 (fun hc108 => absurd hc108 (by decide)) (fun hc108 => ?_)
  refine g_aloadN C X57 d45_111 112 rfl rfl ?_
  refine g_iloadN C X57 d45_112 113 rfl ?_
  refine g_lloadN C X57 d45_113 114 rfl ?_
  refine g_iload C X57 d45_114 116 rfl ?_
  refine g_bipush C X57 d45_116 118 (v := 9) rfl ?_
  refine g_callS C X57 (w_226 hw) (w_227 hw) (w_190 hw) (w_228 hw) d45_118 [(.ref o1), (.int i1), (.long x1), (.int i2), (.int 9)] [] 0 (rm46 hw Z57 f58 f59 f60 f61 f62 f63 hcs hwf hp hv hd hn ht hf hb (show Int32.ofNat 9 = _ from rfl) (by decide)) pd_27 rfl 121 (fun u64 T64 L64 X64 hQ64 => ?_)
  obtain ⟨rfl, Nq64, Kq64⟩ := hQ64
  have N64 := Fr.app N57 Nq64
  have K64 := K57.trans Kq64 all0
  refine ret1 ?_
  refine g_if_eq C X64 d45_121 128 124 (fun hc121 => absurd hc121 (by decide)) (fun hc121 => ?_)
  refine g_iconst C X64 d45_124 125 (v := 1) rfl ?_
  refine g_goto C X64 d45_125 129 ?_
  exact g_retN C X64 K (by simp) d45_129 (by decide) (by decide) rfl ⟨rfl, N64, K64⟩
theorem ef_39riri (m : MethodId) (a1 : Addr) (a2 : Int32) (a3 : Addr) (a4 : Int32) : entryFrame m #[(.ref a1), (.int a2), (.ref a3), (.int a4)] 4 = mkF m 0 #[rv a1, iv a2, rv a3, iv a4] [] := by first | (simp [entryFrame, mkF, argsToLocals, Value.category, iv, rv, jv, nv, uu, sd]; done) | rfl
theorem d39_0 : decode method_7_code 0 = .ok (.iload_n 3, 1) := by decide +kernel
theorem d39_1 : decode method_7_code 1 = .ok (.aload_n 2, 1) := by decide +kernel
theorem d39_2 : decode method_7_code 2 = .ok (.invokevirtual 33, 3) := by decide +kernel
theorem w_194 {Z : State} {a0 : Array Value} (hw : ∀ d ∈ tables_1, d.before a0 Z = true) : Jvm.Cond.before (Jvm.Cond.methodLink "com/example/firer/firer/formats/ParserMessagesAtPinLaw" (33 : Nat) ({ cls := "java/lang/String", name := "length", desc := "()I" } : Jvm.MethodName)) a0 Z = true := hw _ (List.mem_of_getElem? (i := 194) rfl)
theorem b_18 (hw : OwnW a0 Z) : CallV "com/example/firer/firer/formats/ParserMessagesAtPinLaw" 33 (⟨"java/lang/String", "length", "()I"⟩ : MethodName) "java/lang/String" jdk_42_method_54_code (1 : Nat) (Option.some Jvm.ClassFile.FieldType.int) a0 Z := ⟨(w_194 hw), (w_69 hw), (w_71 hw), (w_70 hw), (w_72 hw), (w_4 hw)⟩
theorem d39_5 : decode method_7_code 5 = .ok (.if_icmp .lt 5, 3) := by decide +kernel
theorem d39_10 : decode method_7_code 10 = .ok (.aload_n 0, 1) := by decide +kernel
theorem d39_11 : decode method_7_code 11 = .ok (.iload_n 1, 1) := by decide +kernel
theorem d39_12 : decode method_7_code 12 = .ok (.iload_n 3, 1) := by decide +kernel
theorem d39_13 : decode method_7_code 13 = .ok (.iadd, 1) := by decide +kernel
theorem d39_14 : decode method_7_code 14 = .ok (.invokevirtual 49, 3) := by decide +kernel
theorem d39_17 : decode method_7_code 17 = .ok (.aload_n 2, 1) := by decide +kernel
theorem d39_18 : decode method_7_code 18 = .ok (.iload_n 3, 1) := by decide +kernel
theorem d39_19 : decode method_7_code 19 = .ok (.invokevirtual 49, 3) := by decide +kernel
theorem d39_22 : decode method_7_code 22 = .ok (.if_icmp .ne 7, 3) := by decide +kernel
theorem d39_25 : decode method_7_code 25 = .ok (.iconst 1, 1) := by decide +kernel
theorem d39_26 : decode method_7_code 26 = .ok (.goto 4, 3) := by decide +kernel
theorem d39_30 : decode method_7_code 30 = .ok (.ireturn, 1) := by decide +kernel
theorem d39_8 : decode method_7_code 8 = .ok (.iconst 1, 1) := by decide +kernel
theorem d39_9 : decode method_7_code 9 = .ok (.ireturn, 1) := by decide +kernel
abbrev y39 : MethodName := (⟨"com/example/firer/firer/formats/ParserMessagesAtPinLaw", "step", "(Ljava/lang/String;ILjava/lang/String;I)Z"⟩ : MethodName)
theorem rm39 {o1 o5 o2 o6 : Addr} {i1 i3 cs1 : Int32} {kd1 kd5 : ClassId} {l1 l5 : List Int32} {p1 j1 : Nat} {wf1 : Value} (hw : OwnW a0 Z) (Z0 : n0 ≤ h0.size) (F0 : OEs Z h0 o1) (F1 : OFv Z h0 o1 (.ref o2)) (F2 : OFc Z h0 o1) (F3 : Arv Z h0 o2 kd1 .byte (Int32.ofNat l1.length) (l1.map Value.int) (.int 0)) (F4 : OEs Z h0 o5) (F5 : OFv Z h0 o5 (.ref o6)) (F6 : OFc Z h0 o5) (F7 : Arv Z h0 o6 kd5 .byte (Int32.ofNat l5.length) (l5.map Value.int) (.int 0)) (F8 : OSc Z h0 cs1) (F9 : OSf Z h0 wf1) (hcs : ¬ cs1 = (0 : Int32)) (hwf : wf1.isRef = true) (hp : Int32.ofNat p1 = i1) (ht : TxtAt l1 p1 l5) (hf : p1 + l5.length ≤ l1.length) (hb : l1.length ≤ 45) (hj : Int32.ofNat j1 = i3) (h10 : j1 < 10) : OwnMF l Z y39 method_7_code 4 (some .boolean) ws ⟨4, 0, 0, 54⟩ #[(.ref o1), (.int i1), (.ref o5), (.int i3)] h0 (OwnQ (some (.int 1)) h0 n0) := by
  refine bo (plainFor_of_name pn_0) ?_
  intro p e s m below meth c T0 G C hnm hnamed X0 e0 K
  have N0 := Fr.nil n0
  refine Goes.to (congrArg T0.setTop (ef_39riri m o1 i1 o5 i3)) ?_
  refine g_iloadN C X0 d39_0 1 rfl ?_
  refine g_aloadN C X0 d39_1 2 rfl rfl ?_
  refine g_callV0 C X0 (b_18 hw) F4 d39_2 [] [(.int i3)] 1 (rm12_s hw Z0 F4 F5 F6 F7 F8 hcs) N0 pd_8 e0 5 (fun T1 _ X1 N1 e1 => ?_)
  refine g_icmp_lt C X1 d39_5 10 8 (fun hc5 => ?_) (fun hc5 => ?_)
  · refine g_aloadN C X1 d39_10 11 rfl rfl ?_
    refine g_iloadN C X1 d39_11 12 rfl ?_
    refine g_iloadN C X1 d39_12 13 rfl ?_
    refine g_iadd C X1 d39_13 14 ?_
    refine g_callV0 C X1 (b_17 hw) F0 d39_14 [(.int (i1 + i3))] [] 0 (rm40_s hw Z0 F0 F1 F2 F3 F8 F9 hcs hwf (show Int32.ofNat (p1 + j1) = i1 + i3 from by rw [← i_add, hp, hj]) (by have := (ix_lt hj rfl (by omega) (by omega) hc5); omega) (by omega)) N1 pd_26 e1 17 (fun T2 _ X2 N2 e2 => ?_)
    refine g_aloadN C X2 d39_17 18 rfl rfl ?_
    refine g_iloadN C X2 d39_18 19 rfl ?_
    refine g_callV0 C X2 (b_17 hw) F4 d39_19 [(.int i3)] [(.int (own_ch (l1.getD (p1 + j1) 0)))] 1 (rm40_s hw Z0 F4 F5 F6 F7 F8 F9 hcs hwf hj (ix_lt hj rfl (by omega) (by omega) hc5) (by omega)) N2 pd_26 e2 22 (fun T3 _ X3 N3 e3 => ?_)
    refine g_icmp_ne C X3 d39_22 29 25 (fun hc22 => absurd (congrArg own_ch (ht _ (ix_lt hj rfl (by omega) (by omega) hc5))) hc22) (fun hc22 => ?_)
    refine g_iconst C X3 d39_25 26 (v := 1) rfl ?_
    refine g_goto C X3 d39_26 30 ?_
    exact g_retN C X3 K (by simp) d39_30 (by decide) (by decide) e3 ⟨rfl, N3, rfl⟩
  · refine g_iconst C X1 d39_8 9 (v := 1) rfl ?_
    exact g_retN C X1 K (by simp) d39_9 (by decide) (by decide) e1 ⟨rfl, N1, rfl⟩
theorem ef_38rir (m : MethodId) (a1 : Addr) (a2 : Int32) (a3 : Addr) : entryFrame m #[(.ref a1), (.int a2), (.ref a3)] 3 = mkF m 0 #[rv a1, iv a2, rv a3] [] := by first | (simp [entryFrame, mkF, argsToLocals, Value.category, iv, rv, jv, nv, uu, sd]; done) | rfl
theorem d38_0 : decode method_8_code 0 = .ok (.aload_n 0, 1) := by decide +kernel
theorem d38_1 : decode method_8_code 1 = .ok (.iload_n 1, 1) := by decide +kernel
theorem d38_2 : decode method_8_code 2 = .ok (.aload_n 2, 1) := by decide +kernel
theorem d38_3 : decode method_8_code 3 = .ok (.iconst 0, 1) := by decide +kernel
theorem d38_4 : decode method_8_code 4 = .ok (.invokestatic 81, 3) := by decide +kernel
theorem w_201 {Z : State} {a0 : Array Value} (hw : ∀ d ∈ tables_1, d.before a0 Z = true) : Jvm.Cond.before (Jvm.Cond.code ({ cls := "com/example/firer/firer/formats/ParserMessagesAtPinLaw", name := "step", desc := "(Ljava/lang/String;ILjava/lang/String;I)Z" } : Jvm.MethodName) method_7_code (4 : Nat) (Option.some Jvm.ClassFile.FieldType.boolean)) a0 Z = true := hw _ (List.mem_of_getElem? (i := 201) rfl)
theorem w_199 {Z : State} {a0 : Array Value} (hw : ∀ d ∈ tables_1, d.before a0 Z = true) : Jvm.Cond.before (Jvm.Cond.methodLink "com/example/firer/firer/formats/ParserMessagesAtPinLaw" (81 : Nat) ({ cls := "com/example/firer/firer/formats/ParserMessagesAtPinLaw", name := "step", desc := "(Ljava/lang/String;ILjava/lang/String;I)Z" } : Jvm.MethodName)) a0 Z = true := hw _ (List.mem_of_getElem? (i := 199) rfl)
theorem pd_28 : parseMethodDescriptor "(Ljava/lang/String;ILjava/lang/String;I)Z" = some ⟨[(.object "java/lang/String"), .int, (.object "java/lang/String"), .int], some .boolean⟩ := by decide +kernel
theorem w_200 {Z : State} {a0 : Array Value} (hw : ∀ d ∈ tables_1, d.before a0 Z = true) : Jvm.Cond.before (Jvm.Cond.static ({ cls := "com/example/firer/firer/formats/ParserMessagesAtPinLaw", name := "step", desc := "(Ljava/lang/String;ILjava/lang/String;I)Z" } : Jvm.MethodName)) a0 Z = true := hw _ (List.mem_of_getElem? (i := 200) rfl)
theorem b_19 (hw : OwnW a0 Z) : CallS "com/example/firer/firer/formats/ParserMessagesAtPinLaw" 81 (⟨"com/example/firer/firer/formats/ParserMessagesAtPinLaw", "step", "(Ljava/lang/String;ILjava/lang/String;I)Z"⟩ : MethodName) method_7_code (4 : Nat) (Option.some Jvm.ClassFile.FieldType.boolean) a0 Z := ⟨(w_199 hw), (w_200 hw), (w_190 hw), (w_201 hw)⟩
theorem d38_7 : decode method_8_code 7 = .ok (.ifCond .eq 90, 3) := by decide +kernel
theorem d38_10 : decode method_8_code 10 = .ok (.aload_n 0, 1) := by decide +kernel
theorem d38_11 : decode method_8_code 11 = .ok (.iload_n 1, 1) := by decide +kernel
theorem d38_12 : decode method_8_code 12 = .ok (.aload_n 2, 1) := by decide +kernel
theorem d38_13 : decode method_8_code 13 = .ok (.iconst 1, 1) := by decide +kernel
theorem d38_14 : decode method_8_code 14 = .ok (.invokestatic 81, 3) := by decide +kernel
theorem d38_17 : decode method_8_code 17 = .ok (.ifCond .eq 80, 3) := by decide +kernel
theorem d38_20 : decode method_8_code 20 = .ok (.aload_n 0, 1) := by decide +kernel
theorem d38_21 : decode method_8_code 21 = .ok (.iload_n 1, 1) := by decide +kernel
theorem d38_22 : decode method_8_code 22 = .ok (.aload_n 2, 1) := by decide +kernel
theorem d38_23 : decode method_8_code 23 = .ok (.iconst 2, 1) := by decide +kernel
theorem d38_24 : decode method_8_code 24 = .ok (.invokestatic 81, 3) := by decide +kernel
theorem d38_27 : decode method_8_code 27 = .ok (.ifCond .eq 70, 3) := by decide +kernel
theorem d38_30 : decode method_8_code 30 = .ok (.aload_n 0, 1) := by decide +kernel
theorem d38_31 : decode method_8_code 31 = .ok (.iload_n 1, 1) := by decide +kernel
theorem d38_32 : decode method_8_code 32 = .ok (.aload_n 2, 1) := by decide +kernel
theorem d38_33 : decode method_8_code 33 = .ok (.iconst 3, 1) := by decide +kernel
theorem d38_34 : decode method_8_code 34 = .ok (.invokestatic 81, 3) := by decide +kernel
theorem d38_37 : decode method_8_code 37 = .ok (.ifCond .eq 60, 3) := by decide +kernel
theorem d38_40 : decode method_8_code 40 = .ok (.aload_n 0, 1) := by decide +kernel
theorem d38_41 : decode method_8_code 41 = .ok (.iload_n 1, 1) := by decide +kernel
theorem d38_42 : decode method_8_code 42 = .ok (.aload_n 2, 1) := by decide +kernel
theorem d38_43 : decode method_8_code 43 = .ok (.iconst 4, 1) := by decide +kernel
theorem d38_44 : decode method_8_code 44 = .ok (.invokestatic 81, 3) := by decide +kernel
theorem d38_47 : decode method_8_code 47 = .ok (.ifCond .eq 50, 3) := by decide +kernel
theorem d38_50 : decode method_8_code 50 = .ok (.aload_n 0, 1) := by decide +kernel
theorem d38_51 : decode method_8_code 51 = .ok (.iload_n 1, 1) := by decide +kernel
theorem d38_52 : decode method_8_code 52 = .ok (.aload_n 2, 1) := by decide +kernel
theorem d38_53 : decode method_8_code 53 = .ok (.iconst 5, 1) := by decide +kernel
theorem d38_54 : decode method_8_code 54 = .ok (.invokestatic 81, 3) := by decide +kernel
theorem d38_57 : decode method_8_code 57 = .ok (.ifCond .eq 40, 3) := by decide +kernel
theorem d38_60 : decode method_8_code 60 = .ok (.aload_n 0, 1) := by decide +kernel
theorem d38_61 : decode method_8_code 61 = .ok (.iload_n 1, 1) := by decide +kernel
theorem d38_62 : decode method_8_code 62 = .ok (.aload_n 2, 1) := by decide +kernel
theorem d38_63 : decode method_8_code 63 = .ok (.bipush 6, 2) := by decide +kernel
theorem d38_65 : decode method_8_code 65 = .ok (.invokestatic 81, 3) := by decide +kernel
theorem d38_68 : decode method_8_code 68 = .ok (.ifCond .eq 29, 3) := by decide +kernel
theorem d38_71 : decode method_8_code 71 = .ok (.aload_n 0, 1) := by decide +kernel
theorem d38_72 : decode method_8_code 72 = .ok (.iload_n 1, 1) := by decide +kernel
theorem d38_73 : decode method_8_code 73 = .ok (.aload_n 2, 1) := by decide +kernel
theorem d38_74 : decode method_8_code 74 = .ok (.bipush 7, 2) := by decide +kernel
theorem d38_76 : decode method_8_code 76 = .ok (.invokestatic 81, 3) := by decide +kernel
theorem d38_79 : decode method_8_code 79 = .ok (.ifCond .eq 18, 3) := by decide +kernel
theorem d38_82 : decode method_8_code 82 = .ok (.aload_n 0, 1) := by decide +kernel
theorem d38_83 : decode method_8_code 83 = .ok (.iload_n 1, 1) := by decide +kernel
theorem d38_84 : decode method_8_code 84 = .ok (.aload_n 2, 1) := by decide +kernel
theorem d38_85 : decode method_8_code 85 = .ok (.bipush 8, 2) := by decide +kernel
theorem d38_87 : decode method_8_code 87 = .ok (.invokestatic 81, 3) := by decide +kernel
theorem d38_90 : decode method_8_code 90 = .ok (.ifCond .eq 7, 3) := by decide +kernel
theorem d38_93 : decode method_8_code 93 = .ok (.iconst 1, 1) := by decide +kernel
theorem d38_94 : decode method_8_code 94 = .ok (.goto 4, 3) := by decide +kernel
theorem d38_98 : decode method_8_code 98 = .ok (.ireturn, 1) := by decide +kernel
abbrev y38 : MethodName := (⟨"com/example/firer/firer/formats/ParserMessagesAtPinLaw", "sameAt", "(Ljava/lang/String;ILjava/lang/String;)Z"⟩ : MethodName)
theorem rm38 {o1 o5 o2 o6 : Addr} {i1 cs1 : Int32} {kd1 kd5 : ClassId} {l1 l5 : List Int32} {p1 : Nat} {wf1 : Value} (hw : OwnW a0 Z) (Z0 : n0 ≤ h0.size) (F0 : OEs Z h0 o1) (F1 : OFv Z h0 o1 (.ref o2)) (F2 : OFc Z h0 o1) (F3 : Arv Z h0 o2 kd1 .byte (Int32.ofNat l1.length) (l1.map Value.int) (.int 0)) (F4 : OEs Z h0 o5) (F5 : OFv Z h0 o5 (.ref o6)) (F6 : OFc Z h0 o5) (F7 : Arv Z h0 o6 kd5 .byte (Int32.ofNat l5.length) (l5.map Value.int) (.int 0)) (F8 : OSc Z h0 cs1) (F9 : OSf Z h0 wf1) (hcs : ¬ cs1 = (0 : Int32)) (hwf : wf1.isRef = true) (hp : Int32.ofNat p1 = i1) (ht : TxtAt l1 p1 l5) (hf : p1 + l5.length ≤ l1.length) (hb : l1.length ≤ 45) : OwnMF l Z y38 method_8_code 3 (some .boolean) ws ⟨5, 0, 0, 69⟩ #[(.ref o1), (.int i1), (.ref o5)] h0 (OwnQ (some (.int 1)) h0 n0) := by
  refine bo (plainFor_of_name pn_0) ?_
  intro p e s m below meth c T0 G C hnm hnamed X0 e0 K
  have N0 := Fr.nil n0
  refine Goes.to (congrArg T0.setTop (ef_38rir m o1 i1 o5)) ?_
  refine g_aloadN C X0 d38_0 1 rfl rfl ?_
  refine g_iloadN C X0 d38_1 2 rfl ?_
  refine g_aloadN C X0 d38_2 3 rfl rfl ?_
  refine g_iconst C X0 d38_3 4 (v := 0) rfl ?_
  refine g_callS0 C X0 (b_19 hw) d38_4 [(.ref o1), (.int i1), (.ref o5), (.int 0)] [] 0 (rm39 hw Z0 F0 F1 F2 F3 F4 F5 F6 F7 F8 F9 hcs hwf hp ht hf hb (show Int32.ofNat 0 = _ from rfl) (by decide)) N0 pd_28 e0 7 (fun T1 _ X1 N1 e1 => ?_)
  refine g_if_eq C X1 d38_7 97 10 (fun hc7 => absurd hc7 (by decide)) (fun hc7 => ?_)
  refine g_aloadN C X1 d38_10 11 rfl rfl ?_
  refine g_iloadN C X1 d38_11 12 rfl ?_
  refine g_aloadN C X1 d38_12 13 rfl rfl ?_
  refine g_iconst C X1 d38_13 14 (v := 1) rfl ?_
  refine g_callS0 C X1 (b_19 hw) d38_14 [(.ref o1), (.int i1), (.ref o5), (.int 1)] [] 0 (rm39 hw Z0 F0 F1 F2 F3 F4 F5 F6 F7 F8 F9 hcs hwf hp ht hf hb (show Int32.ofNat 1 = _ from rfl) (by decide)) N1 pd_28 e1 17 (fun T2 _ X2 N2 e2 => ?_)
  refine g_if_eq C X2 d38_17 97 20 (fun hc17 => absurd hc17 (by decide)) (fun hc17 => ?_)
  refine g_aloadN C X2 d38_20 21 rfl rfl ?_
  refine g_iloadN C X2 d38_21 22 rfl ?_
  refine g_aloadN C X2 d38_22 23 rfl rfl ?_
  refine g_iconst C X2 d38_23 24 (v := 2) rfl ?_
  refine g_callS0 C X2 (b_19 hw) d38_24 [(.ref o1), (.int i1), (.ref o5), (.int 2)] [] 0 (rm39 hw Z0 F0 F1 F2 F3 F4 F5 F6 F7 F8 F9 hcs hwf hp ht hf hb (show Int32.ofNat 2 = _ from rfl) (by decide)) N2 pd_28 e2 27 (fun T3 _ X3 N3 e3 => ?_)
  refine g_if_eq C X3 d38_27 97 30 (fun hc27 => absurd hc27 (by decide)) (fun hc27 => ?_)
  refine g_aloadN C X3 d38_30 31 rfl rfl ?_
  refine g_iloadN C X3 d38_31 32 rfl ?_
  refine g_aloadN C X3 d38_32 33 rfl rfl ?_
  refine g_iconst C X3 d38_33 34 (v := 3) rfl ?_
  refine g_callS0 C X3 (b_19 hw) d38_34 [(.ref o1), (.int i1), (.ref o5), (.int 3)] [] 0 (rm39 hw Z0 F0 F1 F2 F3 F4 F5 F6 F7 F8 F9 hcs hwf hp ht hf hb (show Int32.ofNat 3 = _ from rfl) (by decide)) N3 pd_28 e3 37 (fun T4 _ X4 N4 e4 => ?_)
  refine g_if_eq C X4 d38_37 97 40 (fun hc37 => absurd hc37 (by decide)) (fun hc37 => ?_)
  refine g_aloadN C X4 d38_40 41 rfl rfl ?_
  refine g_iloadN C X4 d38_41 42 rfl ?_
  refine g_aloadN C X4 d38_42 43 rfl rfl ?_
  refine g_iconst C X4 d38_43 44 (v := 4) rfl ?_
  refine g_callS0 C X4 (b_19 hw) d38_44 [(.ref o1), (.int i1), (.ref o5), (.int 4)] [] 0 (rm39 hw Z0 F0 F1 F2 F3 F4 F5 F6 F7 F8 F9 hcs hwf hp ht hf hb (show Int32.ofNat 4 = _ from rfl) (by decide)) N4 pd_28 e4 47 (fun T5 _ X5 N5 e5 => ?_)
  refine g_if_eq C X5 d38_47 97 50 (fun hc47 => absurd hc47 (by decide)) (fun hc47 => ?_)
  refine g_aloadN C X5 d38_50 51 rfl rfl ?_
  refine g_iloadN C X5 d38_51 52 rfl ?_
  refine g_aloadN C X5 d38_52 53 rfl rfl ?_
  refine g_iconst C X5 d38_53 54 (v := 5) rfl ?_
  refine g_callS0 C X5 (b_19 hw) d38_54 [(.ref o1), (.int i1), (.ref o5), (.int 5)] [] 0 (rm39 hw Z0 F0 F1 F2 F3 F4 F5 F6 F7 F8 F9 hcs hwf hp ht hf hb (show Int32.ofNat 5 = _ from rfl) (by decide)) N5 pd_28 e5 57 (fun T6 _ X6 N6 e6 => ?_)
  refine g_if_eq C X6 d38_57 97 60 (fun hc57 => absurd hc57 (by decide)) (fun hc57 => ?_)
  refine g_aloadN C X6 d38_60 61 rfl rfl ?_
  refine g_iloadN C X6 d38_61 62 rfl ?_
  refine g_aloadN C X6 d38_62 63 rfl rfl ?_
  refine g_bipush C X6 d38_63 65 (v := 6) rfl ?_
  refine g_callS0 C X6 (b_19 hw) d38_65 [(.ref o1), (.int i1), (.ref o5), (.int 6)] [] 0 (rm39 hw Z0 F0 F1 F2 F3 F4 F5 F6 F7 F8 F9 hcs hwf hp ht hf hb (show Int32.ofNat 6 = _ from rfl) (by decide)) N6 pd_28 e6 68 (fun T7 _ X7 N7 e7 => ?_)
  refine g_if_eq C X7 d38_68 97 71 (fun hc68 => absurd hc68 (by decide)) (fun hc68 => ?_)
  refine g_aloadN C X7 d38_71 72 rfl rfl ?_
  refine g_iloadN C X7 d38_72 73 rfl ?_
  refine g_aloadN C X7 d38_73 74 rfl rfl ?_
  refine g_bipush C X7 d38_74 76 (v := 7) rfl ?_
  refine g_callS0 C X7 (b_19 hw) d38_76 [(.ref o1), (.int i1), (.ref o5), (.int 7)] [] 0 (rm39 hw Z0 F0 F1 F2 F3 F4 F5 F6 F7 F8 F9 hcs hwf hp ht hf hb (show Int32.ofNat 7 = _ from rfl) (by decide)) N7 pd_28 e7 79 (fun T8 _ X8 N8 e8 => ?_)
  refine g_if_eq C X8 d38_79 97 82 (fun hc79 => absurd hc79 (by decide)) (fun hc79 => ?_)
  refine g_aloadN C X8 d38_82 83 rfl rfl ?_
  refine g_iloadN C X8 d38_83 84 rfl ?_
  refine g_aloadN C X8 d38_84 85 rfl rfl ?_
  refine g_bipush C X8 d38_85 87 (v := 8) rfl ?_
  refine g_callS0 C X8 (b_19 hw) d38_87 [(.ref o1), (.int i1), (.ref o5), (.int 8)] [] 0 (rm39 hw Z0 F0 F1 F2 F3 F4 F5 F6 F7 F8 F9 hcs hwf hp ht hf hb (show Int32.ofNat 8 = _ from rfl) (by decide)) N8 pd_28 e8 90 (fun T9 _ X9 N9 e9 => ?_)
  refine g_if_eq C X9 d38_90 97 93 (fun hc90 => absurd hc90 (by decide)) (fun hc90 => ?_)
  refine g_iconst C X9 d38_93 94 (v := 1) rfl ?_
  refine g_goto C X9 d38_94 98 ?_
  exact g_retN C X9 K (by simp) d38_98 (by decide) (by decide) e9 ⟨rfl, N9, rfl⟩
theorem own_nc (x : Int32) : ¬ (255 : Int32) < nar .char (x &&& 255).toUInt32.toUInt16.toUInt32.toInt32 := by rw [own_narc (own_c255 x)]; exact (own_c255 x).2
theorem i64p {x : Int32} {n : Nat} (hx : ¬ x < 0) (h : x.toInt.natAbs = n) : x.toInt64.toInt = (n : Int) := by
  rw [Int32.toInt_toInt64]; rw [Int32.lt_iff_toInt_lt] at hx; have : ¬ x.toInt < 0 := hx; omega
theorem i64n {x : Int32} {n : Nat} (hx : x < 0) (h : x.toInt.natAbs = n) : (-x.toInt64).toInt = (n : Int) := by
  have h1 := Int32.toInt_lt x; have h2 := Int32.le_toInt x
  rw [Int64.toInt_neg, Int32.toInt_toInt64]; rw [Int32.lt_iff_toInt_lt] at hx; have : x.toInt < 0 := hx
  rw [Int.bmod_eq_of_le (by omega) (by omega)]; omega
theorem posn {x : Int32} (h : (0 : Int32) < x) : ¬ x < 0 := fun q => by
  rw [Int32.lt_iff_toInt_lt] at h q; omega

theorem own_r3 {x v : Int32} (h : (x &&& 2147483647) % 3 = v) : v = 0 ∨ v = 1 ∨ v = 2 := by
  have e0 : (x &&& 2147483647 : Int32).toInt = x.toInt % 2 ^ 31 := Jvm.Kit.i32_mask x 2147483647 (k := 31) (by decide) (by decide)
  have e1 : ((x &&& 2147483647) % 3 : Int32).toInt = (x &&& 2147483647 : Int32).toInt % (3 : Int32).toInt := Jvm.Kit.i32_rem_nonneg (by omega)
  have e3 : (3 : Int32).toInt = 3 := by decide
  rw [h, e3] at e1
  have d0 : (0 : Int32).toInt = 0 := by decide
  have d1 : (1 : Int32).toInt = 1 := by decide
  have d2 : (2 : Int32).toInt = 2 := by decide
  simp only [← Int32.toInt_inj]; omega
theorem seg {A B C l : List Int32} {p : Nat} (e : l = A ++ (B ++ C)) (hp : A.length = p) : TxtAt l p B := fun t ht => by
  subst e hp
  rw [List.getD_eq_getElem?_getD, List.getD_eq_getElem?_getD, List.getElem?_append_right (by omega), Nat.add_sub_cancel_left, List.getElem?_append_left ht]
theorem segD {l : List Int32} {p n : Nat} (h : TxtAt l p (low n (dg n))) : DigAt l p n := fun t ht => (h t (by rw [low_length]; exact ht)).trans (low_getD _ _ _ ht _)
theorem msg_of {x1 x2 : Int32} {n1 n2 sg : Nat} {tx l5 sl : List Int32} (hx : (0 : Int32) < x1) (h1 : x1.toInt.natAbs = n1) (h2 : x2.toInt.natAbs = n2) (hs : sgn x2 = sl) (hg : sl.length = sg) (h5 : l5.length ≤ 2) (hg1 : sg ≤ 1) (et : tx = ((((((([] : List Int32) ++ ([108, 105, 110, 101, 32] : List Int32)) ++ decI x1) ++ ([44, 32, 99, 111, 108, 117, 109, 110, 32] : List Int32)) ++ decI x2) ++ ([58, 32] : List Int32)) ++ l5)) :
    tx.length = 5 + dg n1 + 9 + sg + dg n2 + 2 + l5.length ∧ tx.length ≤ 45 ∧ TxtAt tx 0 ([108, 105, 110, 101, 32] : List Int32) ∧ DigAt tx 5 n1 ∧ TxtAt tx (5 + dg n1) ([44, 32, 99, 111, 108, 117, 109, 110, 32] : List Int32) ∧ TxtAt tx (5 + dg n1 + 9) sl ∧ DigAt tx (5 + dg n1 + 9 + sg) n2 ∧ TxtAt tx (5 + dg n1 + 9 + sg + dg n2) ([58, 32] : List Int32) ∧ TxtAt tx (5 + dg n1 + 9 + sg + dg n2 + 2) l5 := by
  have q1 : decI x1 = low n1 (dg n1) := (gc_szp h1 (posn hx)).2
  have q2 : decI x2 = sl ++ low n2 (dg n2) := by unfold decI; rw [hs, h2]
  rw [q1, q2] at et
  have d1 := dg_pos n1; have d2 := dg_pos n2
  have L1 := low_length n1 (dg n1); have L2 := low_length n2 (dg n2)
  have hl : tx.length = 5 + dg n1 + 9 + sg + dg n2 + 2 + l5.length := by
    rw [et]; simp only [List.length_append, List.length_cons, List.length_nil, L1, L2, hg]; omega
  refine ⟨hl, by omega, seg (A := []) (C := low n1 (dg n1) ++ (([44, 32, 99, 111, 108, 117, 109, 110, 32] : List Int32) ++ (sl ++ (low n2 (dg n2) ++ (([58, 32] : List Int32) ++ l5))))) ?_ rfl, segD (seg (A := ([108, 105, 110, 101, 32] : List Int32)) (C := ([44, 32, 99, 111, 108, 117, 109, 110, 32] : List Int32) ++ (sl ++ (low n2 (dg n2) ++ (([58, 32] : List Int32) ++ l5)))) ?_ rfl), seg (A := ([108, 105, 110, 101, 32] : List Int32) ++ low n1 (dg n1)) (C := sl ++ (low n2 (dg n2) ++ (([58, 32] : List Int32) ++ l5))) ?_ ?_, seg (A := ([108, 105, 110, 101, 32] : List Int32) ++ (low n1 (dg n1) ++ ([44, 32, 99, 111, 108, 117, 109, 110, 32] : List Int32))) (C := low n2 (dg n2) ++ (([58, 32] : List Int32) ++ l5)) ?_ ?_, segD (seg (A := ([108, 105, 110, 101, 32] : List Int32) ++ (low n1 (dg n1) ++ (([44, 32, 99, 111, 108, 117, 109, 110, 32] : List Int32) ++ sl))) (C := ([58, 32] : List Int32) ++ l5) ?_ ?_), seg (A := ([108, 105, 110, 101, 32] : List Int32) ++ (low n1 (dg n1) ++ (([44, 32, 99, 111, 108, 117, 109, 110, 32] : List Int32) ++ (sl ++ low n2 (dg n2))))) (C := l5) ?_ ?_, seg (A := ([108, 105, 110, 101, 32] : List Int32) ++ (low n1 (dg n1) ++ (([44, 32, 99, 111, 108, 117, 109, 110, 32] : List Int32) ++ (sl ++ (low n2 (dg n2) ++ ([58, 32] : List Int32)))))) (C := []) ?_ ?_⟩
  all_goals first
    | (rw [et]; simp only [List.append_assoc, List.nil_append, List.append_nil]; done)
    | (simp only [List.length_append, List.length_cons, List.length_nil, L1, L2, hg] <;> omega)
theorem msg45 {x : Int32} (h : x = 45) : own_ch x = 45 := by subst h; decide +kernel
theorem sgn_n {x : Int32} (h : x < 0) : sgn x = [45] := if_pos h
theorem sgn_p {x : Int32} (h : ¬ x < 0) : sgn x = [] := if_neg h

theorem tab_start {nm : String} {a0 : Array Value} {s : State} {rhs : Term} {F : Nat → Nat} (h0 : (Cond.initializedFor "java/lang/Integer" nm "[B").before a0 s = true) (h2 : (Cond.exactly (Term.static "java/lang/Integer" nm "[B") "[B").before a0 s = true) (h3 : (Cond.eq (Term.length (Term.static "java/lang/Integer" nm "[B")) (Term.int (100 : Int32))).before a0 s = true)
    (h4 : (Cond.all (Term.static "java/lang/Integer" nm "[B") (Cond.eq (Term.elem (Term.static "java/lang/Integer" nm "[B") (Term.index 0)) rhs)).before a0 s = true) (hF : ∀ r, r < 100 → rhs.eval a0 s none [r] s = some (.int (Int32.ofNat (F r)))) (hfit : ∀ r, r < 100 → fits .byte (.int (Int32.ofNat (F r))) = true) (harr : (Cond.arrayClass .byte).before a0 s = true) :
    ∃ d kd, Sta s s.heap "java/lang/Integer" nm "[B" (.ref d) ∧ Arv s s.heap d kd .byte (Int32.ofNat 100) (((List.range 100).map fun r => Int32.ofNat (F r)).map Value.int) (.int 0) := by
  obtain ⟨d, cB, D0, kB, hev, hfcB, hcellD, hkB, hstatD, hclsD, -⟩ := Cond.exactly_spec h2
  have S := Sta.start hev (Or.inl h0)
  have hl := Cond.eq_int h3 rfl
  obtain ⟨d', D, hev', harrAt, hlen⟩ := Term.length_spec hl
  cases hev.symm.trans hev'
  obtain ⟨hcellD', hknD, -, -⟩ := State.arrayAt?_spec harrAt
  cases hcellD.symm.trans hcellD'
  have h31 := Jvm.Free.SBG.length_lt hev harrAt hl
  have hsz : D0.slots.size = 100 := by
    have h2 : Int32.ofNat 100 = Int32.ofNat D0.slots.size := Value.int.inj hlen
    have := congrArg Int32.toInt h2
    rw [i_toInt _ (by omega), i_toInt _ h31] at this; omega
  have hevAll : ∀ idx, (Term.static "java/lang/Integer" nm "[B").eval a0 s none idx s = some (.ref d) := fun idx => by
    have : (Term.static "java/lang/Integer" nm "[B").eval a0 s none idx s = (Term.static "java/lang/Integer" nm "[B").eval a0 s none [] s := by simp only [Term.eval]
    rw [this]; exact hev
  obtain ⟨cB', kB', comp, hnameB, hkB', hkindB⟩ := Cond.arrayClass_spec harr
  have eBA : ("[" ++ FieldType.toString .byte) = "[B" := by decide
  rw [eBA] at hnameB
  cases hfcB.symm.trans hnameB
  cases hkB.symm.trans hkB'
  have hel : ∀ r, r < 100 → D0.slots[r]? = some (.int (Int32.ofNat (F r))) := fun r hr => by
    have h := Cond.all_elim (hevAll []) harrAt (Cond.before_iff.mp h4) r (by omega)
    have eL : (Term.elem (Term.static "java/lang/Integer" nm "[B") (.index 0)).eval a0 s none [r] s = D0.slots[r]? := Jvm.Free.SBG.elem_at (ix := .index 0) (hevAll [r]) harrAt (by omega) (by omega) rfl
    have hlt : r < D0.slots.size := by omega
    rw [Array.getElem?_eq_getElem hlt] at eL ⊢
    have hr' := hF r hr
    generalize D0.slots[r] = w at eL
    simp only [Cond.value, eL, hr'] at h
    cases w <;> simp at h
    rw [h]
  have hget : ∀ r, r < 100 → ((((List.range 100).map fun r => Int32.ofNat (F r)).map Value.int).getD r (.int 0)) = .int (Int32.ofNat (F r)) := fun r hr => by
    rw [map_getD, List.getD_eq_getElem?_getD, List.getElem?_map, List.getElem?_range hr]; rfl
  refine ⟨d, _, S, D0, ⟨hcellD, ⟨(fun q h => by rw [h] at hstatD; cases hstatD), kB, (by rw [hclsD]; exact hkB), comp, hkindB⟩, hknD⟩, rfl, by rw [hsz]; rfl, by decide, fun r hr => ?_, fun r hr => ?_⟩
  · rw [hsz] at hr; rw [hget r hr]; exact hel r hr
  · rw [hsz] at hr; rw [hget r hr]; exact hfit r hr
theorem ones_num : ∀ r, r < 100 → (48 : Int32) + Int32.ofNat r % 10 = Int32.ofNat (48 + r % 10) := by decide +kernel
theorem tens_num : ∀ r, r < 100 → (48 : Int32) + Int32.ofNat r / 10 = Int32.ofNat (48 + r / 10) := by decide +kernel
theorem ones_fit : ∀ r, r < 100 → fits .byte (.int (Int32.ofNat (48 + r % 10))) = true := by decide +kernel
theorem tens_fit : ∀ r, r < 100 → fits .byte (.int (Int32.ofNat (48 + r / 10))) = true := by decide +kernel

theorem ef_49rriin (m : MethodId) (a1 : Addr) (a2 : Addr) (a3 : Int32) (a4 : Int32) : entryFrame m #[(.ref a1), (.ref a2), (.int a3), (.int a4), .null] 6 = mkF m 0 #[rv a1, rv a2, iv a3, iv a4, nv, uu] [] := by first | (simp [entryFrame, mkF, argsToLocals, Value.category, iv, rv, jv, nv, uu, sd]; done) | rfl
theorem d49_0 : decode jdk_42_method_149_code 0 = .ok (.aload_n 0, 1) := by decide +kernel
theorem d49_1 : decode jdk_42_method_149_code 1 = .ok (.invokespecial 1, 3) := by decide +kernel
theorem d49_4 : decode jdk_42_method_149_code 4 = .ok (.iload_n 3, 1) := by decide +kernel
theorem d49_5 : decode jdk_42_method_149_code 5 = .ok (.ifCond .ne 22, 3) := by decide +kernel
theorem d49_8 : decode jdk_42_method_149_code 8 = .ok (.aload_n 0, 1) := by decide +kernel
theorem d49_9 : decode jdk_42_method_149_code 9 = .ok (.ldc 7, 2) := by decide +kernel
theorem d49_11 : decode jdk_42_method_149_code 11 = .ok (.getfield 9, 3) := by decide +kernel
theorem d49_14 : decode jdk_42_method_149_code 14 = .ok (.putfield 9, 3) := by decide +kernel
theorem d49_17 : decode jdk_42_method_149_code 17 = .ok (.aload_n 0, 1) := by decide +kernel
theorem d49_18 : decode jdk_42_method_149_code 18 = .ok (.ldc 7, 2) := by decide +kernel
theorem d49_20 : decode jdk_42_method_149_code 20 = .ok (.getfield 15, 3) := by decide +kernel
theorem d49_23 : decode jdk_42_method_149_code 23 = .ok (.putfield 15, 3) := by decide +kernel
theorem d49_26 : decode jdk_42_method_149_code 26 = .ok (.return_, 1) := by decide +kernel
def Q49_0 (Z : State) (o1 : Addr) (o2 : Addr) (kd1 : ClassId) (h0 : Heap) (n0 : Nat) (v : Option Value) (h : Heap) (L : List Loc) : Prop := ∃ (o3 : Addr) (kd3 : ClassId), v = none ∧ Fr n0 L ∧ Keep h0 h [o1] ∧ OEs Z h o1 ∧ OFv Z h o1 (.ref o3) ∧ OFc Z h o1 ∧ Arv Z h o3 kd3 .byte 0 [] (.int 0)
abbrev y49 : MethodName := (⟨"java/lang/String", "<init>", "([CIILjava/lang/Void;)V"⟩ : MethodName)
theorem rm49_0 {o1 o2 : Addr} {kd1 : ClassId} (hw : OwnW a0 Z) (Z0 : n0 ≤ h0.size) (hEL : EW Z a0 EL) (F0 : OEs Z h0 o1) (F1 : OFv Z h0 o1 .null) (F2 : OFc Z h0 o1) (F3 : Arv Z h0 o2 kd1 .char 0 [] (.int 0)) (gn_o1 : n0 ≤ o1) (ne_o1_o2 : o1 ≠ o2) : OwnMFH l Z EL y49 jdk_42_method_149_code 6 none ws ⟨1, 4, 8, 12⟩ #[(.ref o1), (.ref o2), (.int 0), (.int 0), .null] h0 (Q49_0 Z o1 o2 kd1 h0 n0) := by
  refine boH (plainFor_of_name pn_1) ?_
  intro p e s m below meth c T0 G C hnm hnamed X0 e0 hh0 hS0 H0_ R0_ K
  have N0 := Fr.nil n0
  refine Goes.to (congrArg T0.setTop (ef_49rriin m o1 o2 (0 : Int32) (0 : Int32))) ?_
  have K00 := Keep.refl h0 [o1]
  refine g_aloadN C X0 d49_0 1 rfl rfl ?_
  refine g_initO C X0 (w_21 hw) (w_22 hw) (w_23 hw) e0 rfl d49_1 4 (by decide) (W := 0) (Nat.le_of_eq rfl) (by decide) (fun T1 X1 e1 => ?_)
  refine g_iloadN C X1 d49_4 5 rfl ?_
  refine g_if_ne C X1 d49_5 27 8 (fun hc5 => absurd hc5 (by decide)) (fun hc5 => ?_)
  refine g_aloadN C X1 d49_8 9 rfl rfl ?_
  refine g_ldcCH C X1 (n := 0) (z := (0 : Int32)) (vs := []) (hw _ (List.mem_of_getElem? (i := 259) rfl)) (strAtoms hw) e1 hS0 (Nat.zero_le _) hEL (by decide) H0_ ⟨by decide, rfl⟩ (by decide) rfl d49_9 11 (by decide) (by decide) (by decide) (by decide) (fun b2 T2 h2 k2 bb2 ki2 C2 X2 e2 E2 hS2 hk2 fe2 fc2 fv2 fa2 A2 sn2 => ?_)
  have f3 := F0.ext E2
  have f4 := F1.ext E2
  have f5 := F2.ext E2
  have H_2 := A2.1
  have R_2 := R0_.trans A2
  have sf_o1_2 := A2.safe F0.lt (safe_null C.2.1.alike F1 F0)
  have K2 := K00.ext E2
  refine g_getF C2 X2 (w_24 hw) Via.refl e2 fv2 d49_11 14 (fun T7 X7 e7 => ?_)
  refine g_putF C2 X7 (w_24 hw) Via.refl e7 f4 f3 (Or.inr ⟨(w_25 hw), rfl, hnm⟩) (w_12 hw) (ty := (.array .byte)) (by decide) rfl rfl d49_14 17 (fun T8 h8 X8 e8 W8 => ?_)
  have f9 := f3.wr W8
  have f10 := f4.same W8
  have f11 := f5.other W8 (Or.inr (slot_ne (Or.inr (w_27 hw)) (Or.inr (w_25 hw)) (by decide) (t := .byte) (t' := (.array .byte)) (by decide) (by decide)))
  have f16 := fa2.other W8 (Ne.symm (sn2 _ sf_o1_2).2)
  have N8 := Fr.snoc X8 N0 gn_o1
  have hk8 := Nat.le_trans hk2 (Nat.le_of_eq W8.size.symm)
  have H_8 := H_2.wr W8 sf_o1_2
  have R_8 := R_2.trans (CHr.wr W8 sf_o1_2 H_2)
  have sf_o1_8 := Safe.wr W8 sf_o1_2 H_2 sf_o1_2
  have K8 := K2.wr W8 (Or.inl (List.mem_of_getElem? (i := 0) rfl))
  refine g_aloadN C2 X8 d49_17 18 rfl rfl ?_
  refine g_ldcCH C2 X8 (n := 0) (z := (0 : Int32)) (vs := []) (hw _ (List.mem_of_getElem? (i := 259) rfl)) (strAtoms hw) e8 hS2 hk8 hEL (by decide) H_8 ⟨by decide, rfl⟩ (by decide) rfl d49_18 20 (by decide) (by decide) (by decide) (by decide) (fun b17 T17 h17 k17 bb17 ki17 C17 X17 e17 E17 hS17 hk17 fe17 fc17 fv17 fa17 A17 sn17 => ?_)
  have f18 := f9.ext E17
  have f19 := f10.ext E17
  have f20 := f11.ext E17
  have f25 := f16.ext E17
  have H_17 := A17.1
  have R_17 := R_8.trans A17
  have sf_o1_17 := A17.safe f9.lt sf_o1_8
  have K17 := K8.ext E17
  refine g_getF C17 X17 (w_26 hw) Via.refl e17 fc17 d49_20 23 (fun T26 X26 e26 => ?_)
  refine g_putFN C17 X26 (w_26 hw) Via.refl e26 f20 f18 (Or.inr ⟨(w_27 hw), rfl, hnm⟩) (w_12 hw) (ty := .byte) (by decide) (v' := (.int 0)) (by decide) (by decide) d49_23 26 (fun T27 h27 X27 e27 W27 => ?_)
  have f28 := f18.wr W27
  have f29 := f19.other W27 (Or.inr (slot_ne (Or.inr (w_25 hw)) (Or.inr (w_27 hw)) (by decide) (t := (.array .byte)) (t' := .byte) (by decide) (by decide)))
  have f30 := f20.same W27
  have f35 := f25.other W27 (Ne.symm (sn2 _ sf_o1_2).2)
  have N27 := Fr.snoc X27 N8 gn_o1
  have hk27 := Nat.le_trans hk17 (Nat.le_of_eq W27.size.symm)
  have H_27 := H_17.wr W27 sf_o1_17
  have R_27 := R_17.trans (CHr.wr W27 sf_o1_17 H_17)
  have K27 := K17.wr W27 (Or.inl (List.mem_of_getElem? (i := 0) rfl))
  exact g_retVH C17 X27 K hS17 hk27 hEL H_27 R_27 d49_26 (by decide) (by decide) e27 ⟨bb2, ki2, rfl, N27, K27, f28, f29, f30, f35⟩
theorem ef_48rr (m : MethodId) (a1 : Addr) (a2 : Addr) : entryFrame m #[(.ref a1), (.ref a2)] 2 = mkF m 0 #[rv a1, rv a2] [] := by first | (simp [entryFrame, mkF, argsToLocals, Value.category, iv, rv, jv, nv, uu, sd]; done) | rfl
theorem d48_0 : decode jdk_42_method_3_code 0 = .ok (.aload_n 0, 1) := by decide +kernel
theorem d48_1 : decode jdk_42_method_3_code 1 = .ok (.aload_n 1, 1) := by decide +kernel
theorem d48_2 : decode jdk_42_method_3_code 2 = .ok (.iconst 0, 1) := by decide +kernel
theorem d48_3 : decode jdk_42_method_3_code 3 = .ok (.aload_n 1, 1) := by decide +kernel
theorem d48_4 : decode jdk_42_method_3_code 4 = .ok (.arraylength, 1) := by decide +kernel
theorem d48_5 : decode jdk_42_method_3_code 5 = .ok (.aconst_null, 1) := by decide +kernel
theorem d48_6 : decode jdk_42_method_3_code 6 = .ok (.invokespecial 27, 3) := by decide +kernel
theorem w_248 {Z : State} {a0 : Array Value} (hw : ∀ d ∈ tables_1, d.before a0 Z = true) : Jvm.Cond.before (Jvm.Cond.code ({ cls := "java/lang/String", name := "<init>", desc := "([CIILjava/lang/Void;)V" } : Jvm.MethodName) jdk_42_method_149_code (6 : Nat) (Option.none : Option Jvm.ClassFile.FieldType)) a0 Z = true := hw _ (List.mem_of_getElem? (i := 248) rfl)
theorem w_246 {Z : State} {a0 : Array Value} (hw : ∀ d ∈ tables_1, d.before a0 Z = true) : Jvm.Cond.before (Jvm.Cond.methodLink "java/lang/String" (27 : Nat) ({ cls := "java/lang/String", name := "<init>", desc := "([CIILjava/lang/Void;)V" } : Jvm.MethodName)) a0 Z = true := hw _ (List.mem_of_getElem? (i := 246) rfl)
theorem pd_29 : parseMethodDescriptor "([CIILjava/lang/Void;)V" = some ⟨[(.array .char), .int, .int, (.object "java/lang/Void")], none⟩ := by decide +kernel
theorem w_247 {Z : State} {a0 : Array Value} (hw : ∀ d ∈ tables_1, d.before a0 Z = true) : Jvm.Cond.before (Jvm.Cond.instanceMethod ({ cls := "java/lang/String", name := "<init>", desc := "([CIILjava/lang/Void;)V" } : Jvm.MethodName)) a0 Z = true := hw _ (List.mem_of_getElem? (i := 247) rfl)
theorem d48_9 : decode jdk_42_method_3_code 9 = .ok (.return_, 1) := by decide +kernel
def Q48_0 (Z : State) (o1 : Addr) (o2 : Addr) (kd1 : ClassId) (h0 : Heap) (n0 : Nat) (v : Option Value) (h : Heap) (L : List Loc) : Prop := ∃ (o3 : Addr) (kd3 : ClassId), v = none ∧ Fr n0 L ∧ Keep h0 h [o1] ∧ OEs Z h o1 ∧ OFv Z h o1 (.ref o3) ∧ OFc Z h o1 ∧ Arv Z h o3 kd3 .byte 0 [] (.int 0)
abbrev y48 : MethodName := (⟨"java/lang/String", "<init>", "([C)V"⟩ : MethodName)
theorem rm48_0 {o1 o2 : Addr} {kd1 : ClassId} (hw : OwnW a0 Z) (Z0 : n0 ≤ h0.size) (hEL : EW Z a0 EL) (F0 : OEs Z h0 o1) (F1 : OFv Z h0 o1 .null) (F2 : OFc Z h0 o1) (F3 : Arv Z h0 o2 kd1 .char 0 [] (.int 0)) (gn_o1 : n0 ≤ o1) (ne_o1_o2 : o1 ≠ o2) : OwnMFH l Z EL y48 jdk_42_method_3_code 2 none ws ⟨2, 4, 8, 29⟩ #[(.ref o1), (.ref o2)] h0 (Q48_0 Z o1 o2 kd1 h0 n0) := by
  refine boH (plainFor_of_name pn_1) ?_
  intro p e s m below meth c T0 G C hnm hnamed X0 e0 hh0 hS0 H0_ R0_ K
  have N0 := Fr.nil n0
  refine Goes.to (congrArg T0.setTop (ef_48rr m o1 o2)) ?_
  have K00 := Keep.refl h0 [o1]
  refine g_aloadN C X0 d48_0 1 rfl rfl ?_
  refine g_aloadN C X0 d48_1 2 rfl rfl ?_
  refine g_iconst C X0 d48_2 3 (v := 0) rfl ?_
  refine g_aloadN C X0 d48_3 4 rfl rfl ?_
  refine g_arraylength C X0 e0 F3 d48_4 5 ?_
  refine g_aconstNull C X0 d48_5 6 ?_
  refine g_callIH C X0 hS0 (Nat.zero_le _) hEL H0_ rfl (w_246 hw) (w_247 hw) (w_4 hw) (w_248 hw) d48_6 [(.ref o2), (.int 0), (.int 0), .null] [] 0 (rm49_0 hw Z0 hEL F0 F1 F2 F3 gn_o1 ne_o1_o2) pd_29 e0 9 (fun u1 T1 L1 C1 X1 hQ1 hS1 A1 => ?_)
  obtain ⟨o31, kd31, rfl, Nq1, Kq1, q1_0, q1_1, q1_2, q1_3⟩ := hQ1
  have N1 := Fr.app N0 Nq1
  have H_1 := A1.1
  have R_1 := R0_.trans A1
  have K1 := K00.trans Kq1 (allS (Or.inl (List.mem_of_getElem? (i := 0) rfl)) all0)
  refine ret0 ?_
  exact g_retVH C1 X1 K hS1 (Nat.le_refl _) hEL H_1 R_1 d48_9 (by decide) (by decide) rfl ⟨o31, kd31, rfl, N1, K1, q1_0, q1_1, q1_2, q1_3⟩
theorem ef_51ririi (m : MethodId) (a1 : Addr) (a2 : Int32) (a3 : Addr) (a4 : Int32) (a5 : Int32) : entryFrame m #[(.ref a1), (.int a2), (.ref a3), (.int a4), (.int a5)] 7 = mkF m 0 #[rv a1, iv a2, rv a3, iv a4, iv a5, uu, uu] [] := by first | (simp [entryFrame, mkF, argsToLocals, Value.category, iv, rv, jv, nv, uu, sd]; done) | rfl
theorem d51_0 : decode jdk_52_method_21_code 0 = .ok (.iconst 0, 1) := by decide +kernel
theorem d51_1 : decode jdk_52_method_21_code 1 = .ok (.istore 5, 2) := by decide +kernel
theorem d51_3 : decode jdk_52_method_21_code 3 = .ok (.iload 5, 2) := by decide +kernel
theorem d51_5 : decode jdk_52_method_21_code 5 = .ok (.iload 4, 2) := by decide +kernel
theorem d51_7 : decode jdk_52_method_21_code 7 = .ok (.if_icmp .ge 37, 3) := by decide +kernel
theorem d51_10 : decode jdk_52_method_21_code 10 = .ok (.aload_n 0, 1) := by decide +kernel
theorem d51_11 : decode jdk_52_method_21_code 11 = .ok (.iload_n 1, 1) := by decide +kernel
theorem d51_12 : decode jdk_52_method_21_code 12 = .ok (.caload, 1) := by decide +kernel
theorem d51_13 : decode jdk_52_method_21_code 13 = .ok (.istore 6, 2) := by decide +kernel
theorem d51_15 : decode jdk_52_method_21_code 15 = .ok (.iload 6, 2) := by decide +kernel
theorem d51_17 : decode jdk_52_method_21_code 17 = .ok (.sipush 255, 3) := by decide +kernel
theorem d51_20 : decode jdk_52_method_21_code 20 = .ok (.if_icmp .le 6, 3) := by decide +kernel
theorem d51_26 : decode jdk_52_method_21_code 26 = .ok (.aload_n 2, 1) := by decide +kernel
theorem d51_27 : decode jdk_52_method_21_code 27 = .ok (.iload_n 3, 1) := by decide +kernel
theorem d51_28 : decode jdk_52_method_21_code 28 = .ok (.iload 6, 2) := by decide +kernel
theorem d51_30 : decode jdk_52_method_21_code 30 = .ok (.i2b, 1) := by decide +kernel
theorem d51_31 : decode jdk_52_method_21_code 31 = .ok (.bastore, 1) := by decide +kernel
theorem d51_32 : decode jdk_52_method_21_code 32 = .ok (.iinc 1 1, 3) := by decide +kernel
theorem d51_35 : decode jdk_52_method_21_code 35 = .ok (.iinc 3 1, 3) := by decide +kernel
theorem d51_38 : decode jdk_52_method_21_code 38 = .ok (.iinc 5 1, 3) := by decide +kernel
theorem d51_41 : decode jdk_52_method_21_code 41 = .ok (.goto (-38), 3) := by decide +kernel
theorem d51_44 : decode jdk_52_method_21_code 44 = .ok (.iload 4, 2) := by decide +kernel
theorem d51_46 : decode jdk_52_method_21_code 46 = .ok (.ireturn, 1) := by decide +kernel
def Q51_2 (Z : State) (o1 : Addr) (o2 : Addr) (kd1 : ClassId) (kd2 : ClassId) (c1 : Int32) (c2 : Int32) (h0 : Heap) (n0 : Nat) (v : Option Value) (h : Heap) (L : List Loc) : Prop := v = some (.int 2) ∧ Fr n0 L ∧ Keep h0 h [o2] ∧ Arv Z h o2 kd2 .byte 2 [(.int (nar .byte c1.toInt8.toInt32)), (.int (nar .byte c2.toInt8.toInt32))] (.int 0)
abbrev y51 : MethodName := (⟨"java/lang/StringUTF16", "compress", "([CI[BII)I"⟩ : MethodName)
theorem pn_50 : plainName "java/lang/StringUTF16" = true := by first | (simp [plainName, overriddenIn]; done) | decide +kernel
theorem rm51_2 {o1 o2 : Addr} {kd1 kd2 : ClassId} {c1 c2 : Int32} (hw : OwnW a0 Z) (Z0 : n0 ≤ h0.size) (F0 : Arv Z h0 o1 kd1 .char 2 [(.int c1), (.int c2)] (.int 0)) (F1 : Arv Z h0 o2 kd2 .byte 2 [(.int 0), (.int 0)] (.int 0)) (gn_o2 : n0 ≤ o2) (la1 : ¬ (255 : Int32) < c1) (la2 : ¬ (255 : Int32) < c2) (ne_o1_o2 : o1 ≠ o2) : OwnMF l Z y51 jdk_52_method_21_code 7 (some .int) ws ⟨0, 0, 0, 0⟩ #[(.ref o1), (.int 0), (.ref o2), (.int 0), (.int 2)] h0 (Q51_2 Z o1 o2 kd1 kd2 c1 c2 h0 n0) := by
  refine bo (plainFor_of_name pn_50) ?_
  intro p e s m below meth c T0 G C hnm hnamed X0 e0 K
  have N0 := Fr.nil n0
  refine Goes.to (congrArg T0.setTop (ef_51ririi m o1 (0 : Int32) o2 (0 : Int32) (2 : Int32))) ?_
  have K00 := Keep.refl h0 [o2]
  refine g_iconst C X0 d51_0 1 (v := 0) rfl ?_
  refine g_istore C X0 d51_1 3 (w := 0) rfl (ls' := #[rv o1, iv 0, rv o2, iv 0, iv 2, iv 0, uu]) rfl ?_
  refine g_iload C X0 d51_3 5 rfl ?_
  refine g_iload C X0 d51_5 7 rfl ?_
  refine g_icmp_ge C X0 d51_7 44 10 (fun hc7 => absurd hc7 (by decide)) (fun hc7 => ?_)
  refine g_aloadN C X0 d51_10 11 rfl rfl ?_
  refine g_iloadN C X0 d51_11 12 rfl ?_
  refine g_caload C X0 e0 F0 (by decide) (v := (.int c1)) rfl d51_12 13 ?_
  refine g_istore C X0 d51_13 15 (w := c1) rfl (ls' := #[rv o1, iv 0, rv o2, iv 0, iv 2, iv 0, iv c1]) rfl ?_
  refine g_iload C X0 d51_15 17 rfl ?_
  refine g_sipush C X0 d51_17 20 (v := 255) rfl ?_
  refine g_icmp_le C X0 d51_20 26 23 (fun hc20 => ?_) (fun hc20 => absurd hc20 la1)
  refine g_aloadN C X0 d51_26 27 rfl rfl ?_
  refine g_iloadN C X0 d51_27 28 rfl ?_
  refine g_iload C X0 d51_28 30 rfl ?_
  refine g_i2b C X0 d51_30 31 ?_
  refine g_bastore C X0 (i := 0) e0 F1 (by decide) rfl (Nat.le_of_ble_eq_true rfl) d51_31 32 (fun T1 h1 X1 e1 W1 A1 => ?_)
  have f2 := F0.other W1 ne_o1_o2
  have f3 : Arv Z h1 o2 kd2 .byte 2 [(.int (nar .byte c1.toInt8.toInt32)), (.int 0)] (.int 0) := A1
  have N1 := Fr.snoc X1 N0 gn_o2
  have K1 := K00.wr W1 (Or.inl (List.mem_of_getElem? (i := 0) rfl))
  refine g_iinc C X1 d51_32 35 rfl (w := 1) rfl (ls' := #[rv o1, iv 1, rv o2, iv 0, iv 2, iv 0, iv c1]) rfl ?_
  refine g_iinc C X1 d51_35 38 rfl (w := 1) rfl (ls' := #[rv o1, iv 1, rv o2, iv 1, iv 2, iv 0, iv c1]) rfl ?_
  refine g_iinc C X1 d51_38 41 rfl (w := 1) rfl (ls' := #[rv o1, iv 1, rv o2, iv 1, iv 2, iv 1, iv c1]) rfl ?_
  refine g_goto C X1 d51_41 3 ?_
  refine g_iload C X1 d51_3 5 rfl ?_
  refine g_iload C X1 d51_5 7 rfl ?_
  refine g_icmp_ge C X1 d51_7 44 10 (fun hc7 => absurd hc7 (by decide)) (fun hc7 => ?_)
  refine g_aloadN C X1 d51_10 11 rfl rfl ?_
  refine g_iloadN C X1 d51_11 12 rfl ?_
  refine g_caload C X1 e1 f2 (by decide) (v := (.int c2)) rfl d51_12 13 ?_
  refine g_istore C X1 d51_13 15 (w := c2) rfl (ls' := #[rv o1, iv 1, rv o2, iv 1, iv 2, iv 1, iv c2]) rfl ?_
  refine g_iload C X1 d51_15 17 rfl ?_
  refine g_sipush C X1 d51_17 20 (v := 255) rfl ?_
  refine g_icmp_le C X1 d51_20 26 23 (fun hc20 => ?_) (fun hc20 => absurd hc20 la2)
  refine g_aloadN C X1 d51_26 27 rfl rfl ?_
  refine g_iloadN C X1 d51_27 28 rfl ?_
  refine g_iload C X1 d51_28 30 rfl ?_
  refine g_i2b C X1 d51_30 31 ?_
  refine g_bastore C X1 (i := 1) e1 f3 (by decide) rfl (Nat.le_of_ble_eq_true rfl) d51_31 32 (fun T4 h4 X4 e4 W4 A4 => ?_)
  have f6 : Arv Z h4 o2 kd2 .byte 2 [(.int (nar .byte c1.toInt8.toInt32)), (.int (nar .byte c2.toInt8.toInt32))] (.int 0) := A4
  have N4 := Fr.snoc X4 N1 gn_o2
  have K4 := K1.wr W4 (Or.inl (List.mem_of_getElem? (i := 0) rfl))
  refine g_iinc C X4 d51_32 35 rfl (w := 2) rfl (ls' := #[rv o1, iv 2, rv o2, iv 1, iv 2, iv 1, iv c2]) rfl ?_
  refine g_iinc C X4 d51_35 38 rfl (w := 2) rfl (ls' := #[rv o1, iv 2, rv o2, iv 2, iv 2, iv 1, iv c2]) rfl ?_
  refine g_iinc C X4 d51_38 41 rfl (w := 2) rfl (ls' := #[rv o1, iv 2, rv o2, iv 2, iv 2, iv 2, iv c2]) rfl ?_
  refine g_goto C X4 d51_41 3 ?_
  refine g_iload C X4 d51_3 5 rfl ?_
  refine g_iload C X4 d51_5 7 rfl ?_
  refine g_icmp_ge C X4 d51_7 44 10 (fun hc7 => ?_) (fun hc7 => absurd hc7 (by decide))
  refine g_iload C X4 d51_44 46 rfl ?_
  exact g_retI C X4 K d51_46 (by decide) (by decide) e4 ⟨rfl, N4, K4, f6⟩
theorem ef_50rii (m : MethodId) (a1 : Addr) (a2 : Int32) (a3 : Int32) : entryFrame m #[(.ref a1), (.int a2), (.int a3)] 6 = mkF m 0 #[rv a1, iv a2, iv a3, uu, uu, uu] [] := by first | (simp [entryFrame, mkF, argsToLocals, Value.category, iv, rv, jv, nv, uu, sd]; done) | rfl
theorem d50_0 : decode jdk_52_method_16_code 0 = .ok (.iload_n 2, 1) := by decide +kernel
theorem d50_1 : decode jdk_52_method_16_code 1 = .ok (.newarray .byte, 2) := by decide +kernel
theorem d50_3 : decode jdk_52_method_16_code 3 = .ok (.astore_n 3, 1) := by decide +kernel
theorem d50_4 : decode jdk_52_method_16_code 4 = .ok (.aload_n 0, 1) := by decide +kernel
theorem d50_5 : decode jdk_52_method_16_code 5 = .ok (.iload_n 1, 1) := by decide +kernel
theorem d50_6 : decode jdk_52_method_16_code 6 = .ok (.aload_n 3, 1) := by decide +kernel
theorem d50_7 : decode jdk_52_method_16_code 7 = .ok (.iconst 0, 1) := by decide +kernel
theorem d50_8 : decode jdk_52_method_16_code 8 = .ok (.iload_n 2, 1) := by decide +kernel
theorem d50_9 : decode jdk_52_method_16_code 9 = .ok (.invokestatic 115, 3) := by decide +kernel
theorem w_255 {Z : State} {a0 : Array Value} (hw : ∀ d ∈ tables_1, d.before a0 Z = true) : Jvm.Cond.before (Jvm.Cond.code ({ cls := "java/lang/StringUTF16", name := "compress", desc := "([CI[BII)I" } : Jvm.MethodName) jdk_52_method_21_code (7 : Nat) (Option.some Jvm.ClassFile.FieldType.int)) a0 Z = true := hw _ (List.mem_of_getElem? (i := 255) rfl)
theorem w_251 {Z : State} {a0 : Array Value} (hw : ∀ d ∈ tables_1, d.before a0 Z = true) : Jvm.Cond.before (Jvm.Cond.initialized "java/lang/StringUTF16") a0 Z = true := hw _ (List.mem_of_getElem? (i := 251) rfl)
theorem w_253 {Z : State} {a0 : Array Value} (hw : ∀ d ∈ tables_1, d.before a0 Z = true) : Jvm.Cond.before (Jvm.Cond.methodLink "java/lang/StringUTF16" (115 : Nat) ({ cls := "java/lang/StringUTF16", name := "compress", desc := "([CI[BII)I" } : Jvm.MethodName)) a0 Z = true := hw _ (List.mem_of_getElem? (i := 253) rfl)
theorem pd_30 : parseMethodDescriptor "([CI[BII)I" = some ⟨[(.array .char), .int, (.array .byte), .int, .int], some .int⟩ := by decide +kernel
theorem w_254 {Z : State} {a0 : Array Value} (hw : ∀ d ∈ tables_1, d.before a0 Z = true) : Jvm.Cond.before (Jvm.Cond.static ({ cls := "java/lang/StringUTF16", name := "compress", desc := "([CI[BII)I" } : Jvm.MethodName)) a0 Z = true := hw _ (List.mem_of_getElem? (i := 254) rfl)
theorem d50_12 : decode jdk_52_method_16_code 12 = .ok (.istore 4, 2) := by decide +kernel
theorem d50_14 : decode jdk_52_method_16_code 14 = .ok (.iload 4, 2) := by decide +kernel
theorem d50_16 : decode jdk_52_method_16_code 16 = .ok (.iload_n 2, 1) := by decide +kernel
theorem d50_17 : decode jdk_52_method_16_code 17 = .ok (.if_icmp .eq 40, 3) := by decide +kernel
theorem d50_57 : decode jdk_52_method_16_code 57 = .ok (.aload_n 3, 1) := by decide +kernel
theorem d50_58 : decode jdk_52_method_16_code 58 = .ok (.areturn, 1) := by decide +kernel
def Q50_2 (Z : State) (o1 : Addr) (kd1 : ClassId) (c1 : Int32) (c2 : Int32) (h0 : Heap) (n0 : Nat) (v : Option Value) (h : Heap) (L : List Loc) : Prop := ∃ (o3 : Addr) (kd3 : ClassId), v = some (.ref o3) ∧ Fr n0 L ∧ h0.size ≤ o3 ∧ Keep h0 h [] ∧ Arv Z h o3 kd3 .byte 2 [(.int (nar .byte c1.toInt8.toInt32)), (.int (nar .byte c2.toInt8.toInt32))] (.int 0)
abbrev y50 : MethodName := (⟨"java/lang/StringUTF16", "compress", "([CII)[B"⟩ : MethodName)
theorem rm50_2 {o1 : Addr} {kd1 : ClassId} {c1 c2 : Int32} (hw : OwnW a0 Z) (Z0 : n0 ≤ h0.size) (F0 : Arv Z h0 o1 kd1 .char 2 [(.int c1), (.int c2)] (.int 0)) (la1 : ¬ (255 : Int32) < c1) (la2 : ¬ (255 : Int32) < c2) : OwnMF l Z y50 jdk_52_method_16_code 6 (some (.array .byte)) ws ⟨1, 1, 2, 18⟩ #[(.ref o1), (.int 0), (.int 2)] h0 (Q50_2 Z o1 kd1 c1 c2 h0 n0) := by
  refine bo (plainFor_of_name pn_50) ?_
  intro p e s m below meth c T0 G C hnm hnamed X0 e0 K
  have N0 := Fr.nil n0
  refine Goes.to (congrArg T0.setTop (ef_50rii m o1 (0 : Int32) (2 : Int32))) ?_
  have K00 := Keep.refl h0 []
  refine g_iloadN C X0 d50_0 1 rfl ?_
  refine g_newA (aty := .byte) (n := (2 : Int32)) C X0 (cap := 2) (w_16 hw) e0 d50_1 3 (by decide) (by decide) (by decide) (by decide) (by decide) (fun T1 h1 b1 ki1 X1 e1 g1 E1 A1 => ?_)
  have n2 : o1 ≠ b1 := Nat.ne_of_lt (Nat.lt_of_lt_of_eq F0.lt g1.symm)
  have f3 := F0.ext E1
  have gn_b1 : n0 ≤ b1 := Nat.le_trans Z0 (Nat.le_of_eq g1.symm)
  have Z1 := Nat.le_trans Z0 E1.1
  have sz_b1 : h0.size ≤ b1 := Nat.le_trans K00.1 (Nat.le_of_eq g1.symm)
  have K1 := K00.ext E1
  have f4 : Arv Z h1 b1 ki1 .byte 2 [(.int 0), (.int 0)] (.int 0) := A1.pad (pad_rep [] (.int 0) 2)
  refine g_astoreN C X1 d50_3 4 rfl (ls' := #[rv o1, iv 0, iv 2, rv b1, uu, uu]) rfl ?_
  refine g_aloadN C X1 d50_4 5 rfl rfl ?_
  refine g_iloadN C X1 d50_5 6 rfl ?_
  refine g_aloadN C X1 d50_6 7 rfl rfl ?_
  refine g_iconst C X1 d50_7 8 (v := 0) rfl ?_
  refine g_iloadN C X1 d50_8 9 rfl ?_
  refine g_callS C X1 (w_253 hw) (w_254 hw) (w_251 hw) (w_255 hw) d50_9 [(.ref o1), (.int 0), (.ref b1), (.int 0), (.int 2)] [] 0 (rm51_2 hw Z1 f3 f4 gn_b1 la1 la2 n2) pd_30 e1 12 (fun u5 T5 L5 X5 hQ5 => ?_)
  obtain ⟨rfl, Nq5, Kq5, q5_0⟩ := hQ5
  have N5 := Fr.app N0 Nq5
  have K5 := K1.trans Kq5 (allS (Or.inr sz_b1) all0)
  refine ret1 ?_
  refine g_istore C X5 d50_12 14 (w := 2) rfl (ls' := #[rv o1, iv 0, iv 2, rv b1, iv 2, uu]) rfl ?_
  refine g_iload C X5 d50_14 16 rfl ?_
  refine g_iloadN C X5 d50_16 17 rfl ?_
  refine g_icmp_eq C X5 d50_17 57 20 (fun hc17 => ?_) (fun hc17 => absurd hc17 (by decide))
  refine g_aloadN C X5 d50_57 58 rfl rfl ?_
  exact g_retA C X5 K rfl rfl rfl d50_58 (by decide) (by decide) rfl ⟨b1, ki1, rfl, N5, sz_b1, K5, q5_0⟩
theorem ef_52ri (m : MethodId) (a1 : Addr) (a2 : Int32) : entryFrame m #[(.ref a1), (.int a2)] 2 = mkF m 0 #[rv a1, iv a2] [] := by first | (simp [entryFrame, mkF, argsToLocals, Value.category, iv, rv, jv, nv, uu, sd]; done) | rfl
theorem d52_0 : decode jdk_52_method_15_code 0 = .ok (.iload_n 1, 1) := by decide +kernel
theorem d52_1 : decode jdk_52_method_15_code 1 = .ok (.aload_n 0, 1) := by decide +kernel
theorem d52_2 : decode jdk_52_method_15_code 2 = .ok (.arraylength, 1) := by decide +kernel
theorem d52_3 : decode jdk_52_method_15_code 3 = .ok (.isub, 1) := by decide +kernel
theorem d52_4 : decode jdk_52_method_15_code 4 = .ok (.bipush 31, 2) := by decide +kernel
theorem d52_6 : decode jdk_52_method_15_code 6 = .ok (.iushr, 1) := by decide +kernel
theorem d52_7 : decode jdk_52_method_15_code 7 = .ok (.i2b, 1) := by decide +kernel
theorem d52_8 : decode jdk_52_method_15_code 8 = .ok (.ireturn, 1) := by decide +kernel
abbrev y52 : MethodName := (⟨"java/lang/StringUTF16", "coderFromArrayLen", "([BI)B"⟩ : MethodName)
theorem rm52_2 {o1 : Addr} {kd1 : ClassId} {c1 c2 : Int32} (hw : OwnW a0 Z) (Z0 : n0 ≤ h0.size) (F0 : Arv Z h0 o1 kd1 .byte 2 [(.int c1), (.int c2)] (.int 0)) : OwnMF l Z y52 jdk_52_method_15_code 2 (some .byte) ws ⟨0, 0, 0, 0⟩ #[(.ref o1), (.int 2)] h0 (OwnQ (some (.int 0)) h0 n0) := by
  refine bo (plainFor_of_name pn_50) ?_
  intro p e s m below meth c T0 G C hnm hnamed X0 e0 K
  have N0 := Fr.nil n0
  refine Goes.to (congrArg T0.setTop (ef_52ri m o1 (2 : Int32))) ?_
  refine g_iloadN C X0 d52_0 1 rfl ?_
  refine g_aloadN C X0 d52_1 2 rfl rfl ?_
  refine g_arraylength C X0 e0 F0 d52_2 3 ?_
  refine g_isub C X0 d52_3 4 ?_
  rw [show (2 : Int32) - 2 = 0 from by decide]
  refine g_bipush C X0 d52_4 6 (v := 31) rfl ?_
  refine g_iushr C X0 d52_6 7 ?_
  refine g_i2b C X0 d52_7 8 ?_
  exact g_retN C X0 K (by simp) d52_8 (by decide) (by decide) e0 ⟨(by decide), N0, rfl⟩
theorem d49_27 : decode jdk_42_method_149_code 27 = .ok (.getstatic 38, 3) := by decide +kernel
theorem d49_30 : decode jdk_42_method_149_code 30 = .ok (.ifCond .eq 28, 3) := by decide +kernel
theorem d49_33 : decode jdk_42_method_149_code 33 = .ok (.aload_n 1, 1) := by decide +kernel
theorem d49_34 : decode jdk_42_method_149_code 34 = .ok (.iload_n 2, 1) := by decide +kernel
theorem d49_35 : decode jdk_42_method_149_code 35 = .ok (.iload_n 3, 1) := by decide +kernel
theorem d49_36 : decode jdk_42_method_149_code 36 = .ok (.invokestatic 177, 3) := by decide +kernel
theorem w_252 {Z : State} {a0 : Array Value} (hw : ∀ d ∈ tables_1, d.before a0 Z = true) : Jvm.Cond.before (Jvm.Cond.code ({ cls := "java/lang/StringUTF16", name := "compress", desc := "([CII)[B" } : Jvm.MethodName) jdk_52_method_16_code (6 : Nat) (Option.some (Jvm.ClassFile.FieldType.array Jvm.ClassFile.FieldType.byte))) a0 Z = true := hw _ (List.mem_of_getElem? (i := 252) rfl)
theorem w_249 {Z : State} {a0 : Array Value} (hw : ∀ d ∈ tables_1, d.before a0 Z = true) : Jvm.Cond.before (Jvm.Cond.methodLink "java/lang/String" (177 : Nat) ({ cls := "java/lang/StringUTF16", name := "compress", desc := "([CII)[B" } : Jvm.MethodName)) a0 Z = true := hw _ (List.mem_of_getElem? (i := 249) rfl)
theorem pd_31 : parseMethodDescriptor "([CII)[B" = some ⟨[(.array .char), .int, .int], some (.array .byte)⟩ := by decide +kernel
theorem w_250 {Z : State} {a0 : Array Value} (hw : ∀ d ∈ tables_1, d.before a0 Z = true) : Jvm.Cond.before (Jvm.Cond.static ({ cls := "java/lang/StringUTF16", name := "compress", desc := "([CII)[B" } : Jvm.MethodName)) a0 Z = true := hw _ (List.mem_of_getElem? (i := 250) rfl)
theorem d49_39 : decode jdk_42_method_149_code 39 = .ok (.astore 5, 2) := by decide +kernel
theorem d49_41 : decode jdk_42_method_149_code 41 = .ok (.aload_n 0, 1) := by decide +kernel
theorem d49_42 : decode jdk_42_method_149_code 42 = .ok (.aload 5, 2) := by decide +kernel
theorem d49_44 : decode jdk_42_method_149_code 44 = .ok (.iload_n 3, 1) := by decide +kernel
theorem d49_45 : decode jdk_42_method_149_code 45 = .ok (.invokestatic 47, 3) := by decide +kernel
theorem w_258 {Z : State} {a0 : Array Value} (hw : ∀ d ∈ tables_1, d.before a0 Z = true) : Jvm.Cond.before (Jvm.Cond.code ({ cls := "java/lang/StringUTF16", name := "coderFromArrayLen", desc := "([BI)B" } : Jvm.MethodName) jdk_52_method_15_code (2 : Nat) (Option.some Jvm.ClassFile.FieldType.byte)) a0 Z = true := hw _ (List.mem_of_getElem? (i := 258) rfl)
theorem w_256 {Z : State} {a0 : Array Value} (hw : ∀ d ∈ tables_1, d.before a0 Z = true) : Jvm.Cond.before (Jvm.Cond.methodLink "java/lang/String" (47 : Nat) ({ cls := "java/lang/StringUTF16", name := "coderFromArrayLen", desc := "([BI)B" } : Jvm.MethodName)) a0 Z = true := hw _ (List.mem_of_getElem? (i := 256) rfl)
theorem pd_32 : parseMethodDescriptor "([BI)B" = some ⟨[(.array .byte), .int], some .byte⟩ := by decide +kernel
theorem w_257 {Z : State} {a0 : Array Value} (hw : ∀ d ∈ tables_1, d.before a0 Z = true) : Jvm.Cond.before (Jvm.Cond.static ({ cls := "java/lang/StringUTF16", name := "coderFromArrayLen", desc := "([BI)B" } : Jvm.MethodName)) a0 Z = true := hw _ (List.mem_of_getElem? (i := 257) rfl)
theorem b_20 (hw : OwnW a0 Z) : CallS "java/lang/String" 47 (⟨"java/lang/StringUTF16", "coderFromArrayLen", "([BI)B"⟩ : MethodName) jdk_52_method_15_code (2 : Nat) (Option.some Jvm.ClassFile.FieldType.byte) a0 Z := ⟨(w_256 hw), (w_257 hw), (w_251 hw), (w_258 hw)⟩
theorem d49_48 : decode jdk_42_method_149_code 48 = .ok (.putfield 15, 3) := by decide +kernel
theorem d49_51 : decode jdk_42_method_149_code 51 = .ok (.aload_n 0, 1) := by decide +kernel
theorem d49_52 : decode jdk_42_method_149_code 52 = .ok (.aload 5, 2) := by decide +kernel
theorem d49_54 : decode jdk_42_method_149_code 54 = .ok (.putfield 9, 3) := by decide +kernel
theorem d49_57 : decode jdk_42_method_149_code 57 = .ok (.return_, 1) := by decide +kernel
def Q49_2 (Z : State) (o1 : Addr) (o2 : Addr) (kd1 : ClassId) (c1 : Int32) (c2 : Int32) (cs1 : Int32) (h0 : Heap) (n0 : Nat) (v : Option Value) (h : Heap) (L : List Loc) : Prop := ∃ (o3 : Addr) (kd3 : ClassId), v = none ∧ Fr n0 L ∧ h0.size ≤ o3 ∧ Keep h0 h [o1] ∧ OEs Z h o1 ∧ OFv Z h o1 (.ref o3) ∧ OFc Z h o1 ∧ Arv Z h o3 kd3 .byte 2 [(.int (nar .byte c1.toInt8.toInt32)), (.int (nar .byte c2.toInt8.toInt32))] (.int 0)
theorem rm49_2 {o1 o2 : Addr} {kd1 : ClassId} {c1 c2 cs1 : Int32} (hw : OwnW a0 Z) (Z0 : n0 ≤ h0.size) (F0 : OEs Z h0 o1) (F1 : OFv Z h0 o1 .null) (F2 : OFc Z h0 o1) (F3 : Arv Z h0 o2 kd1 .char 2 [(.int c1), (.int c2)] (.int 0)) (F4 : OSc Z h0 cs1) (gn_o1 : n0 ≤ o1) (la1 : ¬ (255 : Int32) < c1) (la2 : ¬ (255 : Int32) < c2) (hcs : ¬ cs1 = (0 : Int32)) (ne_o1_o2 : o1 ≠ o2) : OwnMF l Z y49 jdk_42_method_149_code 6 none ws ⟨2, 1, 2, 35⟩ #[(.ref o1), (.ref o2), (.int 0), (.int 2), .null] h0 (Q49_2 Z o1 o2 kd1 c1 c2 cs1 h0 n0) := by
  refine bo (plainFor_of_name pn_1) ?_
  intro p e s m below meth c T0 G C hnm hnamed X0 e0 K
  have N0 := Fr.nil n0
  refine Goes.to (congrArg T0.setTop (ef_49rriin m o1 o2 (0 : Int32) (2 : Int32))) ?_
  have K00 := Keep.refl h0 [o1]
  refine g_aloadN C X0 d49_0 1 rfl rfl ?_
  refine g_initO C X0 (w_21 hw) (w_22 hw) (w_23 hw) e0 rfl d49_1 4 (by decide) (W := 0) (Nat.le_of_eq rfl) (by decide) (fun T1 X1 e1 => ?_)
  refine g_iloadN C X1 d49_4 5 rfl ?_
  refine g_if_ne C X1 d49_5 27 8 (fun hc5 => ?_) (fun hc5 => absurd hc5 (by decide))
  refine g_getS C X1 (w_6 hw) Via.refl e1 F4 d49_27 30 (fun T2 X2 e2 => ?_)
  refine g_if_eq C X2 d49_30 58 33 (fun hc30 => absurd hc30 hcs) (fun hc30 => ?_)
  refine g_aloadN C X2 d49_33 34 rfl rfl ?_
  refine g_iloadN C X2 d49_34 35 rfl ?_
  refine g_iloadN C X2 d49_35 36 rfl ?_
  refine g_callS C X2 (w_249 hw) (w_250 hw) (w_251 hw) (w_252 hw) d49_36 [(.ref o2), (.int 0), (.int 2)] [] 0 (rm50_2 hw Z0 F3 la1 la2) pd_31 e2 39 (fun u3 T3 L3 X3 hQ3 => ?_)
  obtain ⟨o33, kd33, rfl, Nq3, szo33, Kq3, q3_0⟩ := hQ3
  have N3 := Fr.app N0 Nq3
  have n4 : o1 ≠ o33 := Nat.ne_of_lt (Nat.lt_of_lt_of_le F0.lt szo33)
  have f6 := F0.keep Kq3
  have f7 := F1.keep Kq3 nin0
  have f8 := F2.keep Kq3 nin0
  have Z3 := Nat.le_trans Z0 Kq3.1
  have sz_o33 : h0.size ≤ o33 := Nat.le_trans K00.1 szo33
  have K3 := K00.trans Kq3 all0
  refine ret1 ?_
  refine g_astore C X3 d49_39 41 rfl (ls' := #[rv o1, rv o2, iv 0, iv 2, nv, rv o33]) rfl ?_
  refine g_aloadN C X3 d49_41 42 rfl rfl ?_
  refine g_aload C X3 d49_42 44 rfl rfl ?_
  refine g_iloadN C X3 d49_44 45 rfl ?_
  refine g_callS0 C X3 (b_20 hw) d49_45 [(.ref o33), (.int 2)] [(.ref o1)] 1 (rm52_2 hw Z3 q3_0) N3 pd_32 rfl 48 (fun T11 _ X11 N11 e11 => ?_)
  refine g_putFN C X11 (w_26 hw) Via.refl e11 f8 f6 (Or.inr ⟨(w_27 hw), rfl, hnm⟩) (w_12 hw) (ty := .byte) (by decide) (v' := (.int 0)) (by decide) (by decide) d49_48 51 (fun T12 h12 X12 e12 W12 => ?_)
  have f13 := f6.wr W12
  have f14 := f7.other W12 (Or.inr (slot_ne (Or.inr (w_25 hw)) (Or.inr (w_27 hw)) (by decide) (t := (.array .byte)) (t' := .byte) (by decide) (by decide)))
  have f15 := f8.same W12
  have f18 := q3_0.other W12 (Ne.symm n4)
  have N12 := Fr.snoc X12 N11 gn_o1
  have K12 := K3.wr W12 (Or.inl (List.mem_of_getElem? (i := 0) rfl))
  refine g_aloadN C X12 d49_51 52 rfl rfl ?_
  refine g_aload C X12 d49_52 54 rfl rfl ?_
  refine g_putF C X12 (w_24 hw) Via.refl e12 f14 f13 (Or.inr ⟨(w_25 hw), rfl, hnm⟩) (w_12 hw) (ty := (.array .byte)) (by decide) rfl rfl d49_54 57 (fun T19 h19 X19 e19 W19 => ?_)
  have f20 := f13.wr W19
  have f21 := f14.same W19
  have f22 := f15.other W19 (Or.inr (slot_ne (Or.inr (w_27 hw)) (Or.inr (w_25 hw)) (by decide) (t := .byte) (t' := (.array .byte)) (by decide) (by decide)))
  have f25 := f18.other W19 (Ne.symm n4)
  have N19 := Fr.snoc X19 N12 gn_o1
  have K19 := K12.wr W19 (Or.inl (List.mem_of_getElem? (i := 0) rfl))
  exact g_retV C X19 K d49_57 (by decide) (by decide) e19 ⟨o33, kd33, rfl, N19, sz_o33, K19, f20, f21, f22, f25⟩
def Q48_2 (Z : State) (o1 : Addr) (o2 : Addr) (kd1 : ClassId) (c1 : Int32) (c2 : Int32) (cs1 : Int32) (h0 : Heap) (n0 : Nat) (v : Option Value) (h : Heap) (L : List Loc) : Prop := ∃ (o3 : Addr) (kd3 : ClassId), v = none ∧ Fr n0 L ∧ h0.size ≤ o3 ∧ Keep h0 h [o1] ∧ OEs Z h o1 ∧ OFv Z h o1 (.ref o3) ∧ OFc Z h o1 ∧ Arv Z h o3 kd3 .byte 2 [(.int (nar .byte c1.toInt8.toInt32)), (.int (nar .byte c2.toInt8.toInt32))] (.int 0)
theorem rm48_2 {o1 o2 : Addr} {kd1 : ClassId} {c1 c2 cs1 : Int32} (hw : OwnW a0 Z) (Z0 : n0 ≤ h0.size) (F0 : OEs Z h0 o1) (F1 : OFv Z h0 o1 .null) (F2 : OFc Z h0 o1) (F3 : Arv Z h0 o2 kd1 .char 2 [(.int c1), (.int c2)] (.int 0)) (F4 : OSc Z h0 cs1) (gn_o1 : n0 ≤ o1) (la1 : ¬ (255 : Int32) < c1) (la2 : ¬ (255 : Int32) < c2) (hcs : ¬ cs1 = (0 : Int32)) (ne_o1_o2 : o1 ≠ o2) : OwnMF l Z y48 jdk_42_method_3_code 2 none ws ⟨3, 1, 2, 52⟩ #[(.ref o1), (.ref o2)] h0 (Q48_2 Z o1 o2 kd1 c1 c2 cs1 h0 n0) := by
  refine bo (plainFor_of_name pn_1) ?_
  intro p e s m below meth c T0 G C hnm hnamed X0 e0 K
  have N0 := Fr.nil n0
  refine Goes.to (congrArg T0.setTop (ef_48rr m o1 o2)) ?_
  have K00 := Keep.refl h0 [o1]
  refine g_aloadN C X0 d48_0 1 rfl rfl ?_
  refine g_aloadN C X0 d48_1 2 rfl rfl ?_
  refine g_iconst C X0 d48_2 3 (v := 0) rfl ?_
  refine g_aloadN C X0 d48_3 4 rfl rfl ?_
  refine g_arraylength C X0 e0 F3 d48_4 5 ?_
  refine g_aconstNull C X0 d48_5 6 ?_
  refine g_callI C X0 rfl (w_246 hw) (w_247 hw) (w_4 hw) (w_248 hw) d48_6 [(.ref o2), (.int 0), (.int 2), .null] [] 0 (rm49_2 hw Z0 F0 F1 F2 F3 F4 gn_o1 la1 la2 hcs ne_o1_o2) pd_29 e0 9 (fun u1 T1 L1 X1 hQ1 => ?_)
  obtain ⟨o31, kd31, rfl, Nq1, szo31, Kq1, q1_0, q1_1, q1_2, q1_3⟩ := hQ1
  have N1 := Fr.app N0 Nq1
  have sz_o31 : h0.size ≤ o31 := Nat.le_trans K00.1 szo31
  have K1 := K00.trans Kq1 (allS (Or.inl (List.mem_of_getElem? (i := 0) rfl)) all0)
  refine ret0 ?_
  exact g_retV C X1 K d48_9 (by decide) (by decide) rfl ⟨o31, kd31, rfl, N1, sz_o31, K1, q1_0, q1_1, q1_2, q1_3⟩
theorem ef_2i (m : MethodId) (a1 : Int32) : entryFrame m #[(.int a1)] 1 = mkF m 0 #[iv a1] [] := by first | (simp [entryFrame, mkF, argsToLocals, Value.category, iv, rv, jv, nv, uu, sd]; done) | rfl
theorem d2_0 : decode jdk_43_method_3_code 0 = .ok (.iload_n 0, 1) := by decide +kernel
theorem d2_1 : decode jdk_43_method_3_code 1 = .ok (.sipush 255, 3) := by decide +kernel
theorem d2_4 : decode jdk_43_method_3_code 4 = .ok (.if_icmp .gt 7, 3) := by decide +kernel
theorem d2_11 : decode jdk_43_method_3_code 11 = .ok (.iconst 0, 1) := by decide +kernel
theorem d2_12 : decode jdk_43_method_3_code 12 = .ok (.ireturn, 1) := by decide +kernel
theorem d2_7 : decode jdk_43_method_3_code 7 = .ok (.iconst 1, 1) := by decide +kernel
theorem d2_8 : decode jdk_43_method_3_code 8 = .ok (.goto 4, 3) := by decide +kernel
def fCan (x0 : Int32) : Int32 := if (255 : Int32) < x0 then (0 : Int32) else (1 : Int32)
abbrev y2 : MethodName := (⟨"java/lang/StringLatin1", "canEncode", "(C)Z"⟩ : MethodName)
theorem rm2 {x0 : Int32} (hw : OwnW a0 Z) (Z0 : n0 ≤ h0.size) : OwnMF l Z y2 jdk_43_method_3_code 1 (some .boolean) ws ⟨0, 0, 0, 0⟩ #[(.int x0)] h0 (OwnQ (some (.int (fCan x0))) h0 n0) := by
  refine bo (plainFor_of_name pn_2) ?_
  intro p e s m below meth c T0 G C hnm hnamed X0 e0 K
  have N0 := Fr.nil n0
  refine Goes.to (congrArg T0.setTop (ef_2i m x0)) ?_
  refine g_iloadN C X0 d2_0 1 rfl ?_
  refine g_sipush C X0 d2_1 4 (v := 255) rfl ?_
  refine g_icmp_gt C X0 d2_4 11 7 (fun hc4 => ?_) (fun hc4 => ?_)
  · refine g_iconst C X0 d2_11 12 (v := 0) rfl ?_
    exact g_retN C X0 K (by simp) d2_12 (by decide) (by decide) e0 ⟨by (unfold fCan; rw [if_pos hc4]) <;> rfl, N0, rfl⟩
  · refine g_iconst C X0 d2_7 8 (v := 1) rfl ?_
    refine g_goto C X0 d2_8 12 ?_
    exact g_retN C X0 K (by simp) d2_12 (by decide) (by decide) e0 ⟨by (unfold fCan; rw [if_neg hc4]) <;> rfl, N0, rfl⟩
theorem own_can {c : Int32} (h : ¬ (255 : Int32) < c) : fCan c = 1 := by unfold fCan; rw [if_neg h]
theorem ef_3i (m : MethodId) (a1 : Int32) : entryFrame m #[(.int a1)] 1 = mkF m 0 #[iv a1] [] := by first | (simp [entryFrame, mkF, argsToLocals, Value.category, iv, rv, jv, nv, uu, sd]; done) | rfl
theorem d3_0 : decode jdk_43_method_46_code 0 = .ok (.iconst 1, 1) := by decide +kernel
theorem d3_1 : decode jdk_43_method_46_code 1 = .ok (.newarray .byte, 2) := by decide +kernel
theorem d3_3 : decode jdk_43_method_46_code 3 = .ok (.dup, 1) := by decide +kernel
theorem d3_4 : decode jdk_43_method_46_code 4 = .ok (.iconst 0, 1) := by decide +kernel
theorem d3_5 : decode jdk_43_method_46_code 5 = .ok (.iload_n 0, 1) := by decide +kernel
theorem d3_6 : decode jdk_43_method_46_code 6 = .ok (.i2b, 1) := by decide +kernel
theorem d3_7 : decode jdk_43_method_46_code 7 = .ok (.bastore, 1) := by decide +kernel
theorem d3_8 : decode jdk_43_method_46_code 8 = .ok (.areturn, 1) := by decide +kernel
def Q3 (Z : State) (c1 : Int32) (h0 : Heap) (n0 : Nat) (v : Option Value) (h : Heap) (L : List Loc) : Prop := ∃ (o3 : Addr) (kd3 : ClassId), v = some (.ref o3) ∧ Fr n0 L ∧ h0.size ≤ o3 ∧ Keep h0 h [] ∧ Arv Z h o3 kd3 .byte 1 [(.int (nar .byte c1.toInt8.toInt32))] (.int 0)
abbrev y3 : MethodName := (⟨"java/lang/StringLatin1", "toBytes", "(C)[B"⟩ : MethodName)
theorem rm3 {c1 : Int32} (hw : OwnW a0 Z) (Z0 : n0 ≤ h0.size) : OwnMF l Z y3 jdk_43_method_46_code 1 (some (.array .byte)) ws ⟨0, 1, 1, 0⟩ #[(.int c1)] h0 (Q3 Z c1 h0 n0) := by
  refine bo (plainFor_of_name pn_2) ?_
  intro p e s m below meth c T0 G C hnm hnamed X0 e0 K
  have N0 := Fr.nil n0
  refine Goes.to (congrArg T0.setTop (ef_3i m c1)) ?_
  have K00 := Keep.refl h0 []
  refine g_iconst C X0 d3_0 1 (v := 1) rfl ?_
  refine g_newA (aty := .byte) (n := (1 : Int32)) C X0 (cap := 1) (w_16 hw) e0 d3_1 3 (by decide) (by decide) (by decide) (by decide) (by decide) (fun T1 h1 b1 ki1 X1 e1 g1 E1 A1 => ?_)
  have gn_b1 : n0 ≤ b1 := Nat.le_trans Z0 (Nat.le_of_eq g1.symm)
  have sz_b1 : h0.size ≤ b1 := Nat.le_trans K00.1 (Nat.le_of_eq g1.symm)
  have K1 := K00.ext E1
  have f2 : Arv Z h1 b1 ki1 .byte 1 [(.int 0)] (.int 0) := A1.pad (pad_rep [] (.int 0) 1)
  refine g_dup C X1 d3_3 4 rfl ?_
  refine g_iconst C X1 d3_4 5 (v := 0) rfl ?_
  refine g_iloadN C X1 d3_5 6 rfl ?_
  refine g_i2b C X1 d3_6 7 ?_
  refine g_bastore C X1 (i := 0) e1 f2 (by decide) rfl (Nat.le_of_ble_eq_true rfl) d3_7 8 (fun T3 h3 X3 e3 W3 A3 => ?_)
  have f4 : Arv Z h3 b1 ki1 .byte 1 [(.int (nar .byte c1.toInt8.toInt32))] (.int 0) := A3
  have N3 := Fr.snoc X3 N0 gn_b1
  have K3 := K1.wr W3 (Or.inr sz_b1)
  exact g_retA C X3 K rfl rfl rfl d3_8 (by decide) (by decide) e3 ⟨b1, ki1, rfl, N3, sz_b1, K3, f4⟩
theorem ef_4rri (m : MethodId) (a1 : Addr) (a2 : Addr) (a3 : Int32) : entryFrame m #[(.ref a1), (.ref a2), (.int a3)] 3 = mkF m 0 #[rv a1, rv a2, iv a3] [] := by first | (simp [entryFrame, mkF, argsToLocals, Value.category, iv, rv, jv, nv, uu, sd]; done) | rfl
theorem d4_0 : decode jdk_42_method_151_code 0 = .ok (.aload_n 0, 1) := by decide +kernel
theorem d4_1 : decode jdk_42_method_151_code 1 = .ok (.invokespecial 1, 3) := by decide +kernel
theorem d4_4 : decode jdk_42_method_151_code 4 = .ok (.aload_n 0, 1) := by decide +kernel
theorem d4_5 : decode jdk_42_method_151_code 5 = .ok (.aload_n 1, 1) := by decide +kernel
theorem d4_6 : decode jdk_42_method_151_code 6 = .ok (.putfield 9, 3) := by decide +kernel
theorem d4_9 : decode jdk_42_method_151_code 9 = .ok (.aload_n 0, 1) := by decide +kernel
theorem d4_10 : decode jdk_42_method_151_code 10 = .ok (.iload_n 2, 1) := by decide +kernel
theorem d4_11 : decode jdk_42_method_151_code 11 = .ok (.putfield 15, 3) := by decide +kernel
theorem d4_14 : decode jdk_42_method_151_code 14 = .ok (.return_, 1) := by decide +kernel
def Q4 (Z : State) (o1 : Addr) (o2 : Addr) (h0 : Heap) (n0 : Nat) (v : Option Value) (h : Heap) (L : List Loc) : Prop := v = none ∧ Fr n0 L ∧ Keep h0 h [o1] ∧ OEs Z h o1 ∧ OFv Z h o1 (.ref o2) ∧ OFc Z h o1
abbrev y4 : MethodName := (⟨"java/lang/String", "<init>", "([BB)V"⟩ : MethodName)
theorem rm4 {o1 o2 : Addr} (hw : OwnW a0 Z) (Z0 : n0 ≤ h0.size) (F0 : OEs Z h0 o1) (F1 : OFv Z h0 o1 .null) (F2 : OFc Z h0 o1) (gn_o1 : n0 ≤ o1) : OwnMF l Z y4 jdk_42_method_151_code 3 none ws ⟨1, 0, 0, 12⟩ #[(.ref o1), (.ref o2), (.int 0)] h0 (Q4 Z o1 o2 h0 n0) := by
  refine bo (plainFor_of_name pn_1) ?_
  intro p e s m below meth c T0 G C hnm hnamed X0 e0 K
  have N0 := Fr.nil n0
  refine Goes.to (congrArg T0.setTop (ef_4rri m o1 o2 (0 : Int32))) ?_
  have K00 := Keep.refl h0 [o1]
  refine g_aloadN C X0 d4_0 1 rfl rfl ?_
  refine g_initO C X0 (w_21 hw) (w_22 hw) (w_23 hw) e0 rfl d4_1 4 (by decide) (W := 0) (Nat.le_of_eq rfl) (by decide) (fun T1 X1 e1 => ?_)
  refine g_aloadN C X1 d4_4 5 rfl rfl ?_
  refine g_aloadN C X1 d4_5 6 rfl rfl ?_
  refine g_putF C X1 (w_24 hw) Via.refl e1 F1 F0 (Or.inr ⟨(w_25 hw), rfl, hnm⟩) (w_12 hw) (ty := (.array .byte)) (by decide) rfl rfl d4_6 9 (fun T2 h2 X2 e2 W2 => ?_)
  have f3 := F0.wr W2
  have f4 := F1.same W2
  have f5 := F2.other W2 (Or.inr (slot_ne (Or.inr (w_27 hw)) (Or.inr (w_25 hw)) (by decide) (t := .byte) (t' := (.array .byte)) (by decide) (by decide)))
  have N2 := Fr.snoc X2 N0 gn_o1
  have K2 := K00.wr W2 (Or.inl (List.mem_of_getElem? (i := 0) rfl))
  refine g_aloadN C X2 d4_9 10 rfl rfl ?_
  refine g_iloadN C X2 d4_10 11 rfl ?_
  refine g_putFN C X2 (w_26 hw) Via.refl e2 f5 f3 (Or.inr ⟨(w_27 hw), rfl, hnm⟩) (w_12 hw) (ty := .byte) (by decide) (v' := (.int 0)) (by decide) (by decide) d4_11 14 (fun T6 h6 X6 e6 W6 => ?_)
  have f7 := f3.wr W6
  have f8 := f4.other W6 (Or.inr (slot_ne (Or.inr (w_25 hw)) (Or.inr (w_27 hw)) (by decide) (t := (.array .byte)) (t' := .byte) (by decide) (by decide)))
  have f9 := f5.same W6
  have N6 := Fr.snoc X6 N2 gn_o1
  have K6 := K2.wr W6 (Or.inl (List.mem_of_getElem? (i := 0) rfl))
  exact g_retV C X6 K d4_14 (by decide) (by decide) e6 ⟨rfl, N6, K6, f7, f8, f9⟩
theorem ef_1i (m : MethodId) (a1 : Int32) : entryFrame m #[(.int a1)] 1 = mkF m 0 #[iv a1] [] := by first | (simp [entryFrame, mkF, argsToLocals, Value.category, iv, rv, jv, nv, uu, sd]; done) | rfl
theorem d1_0 : decode jdk_42_method_139_code 0 = .ok (.getstatic 38, 3) := by decide +kernel
theorem d1_3 : decode jdk_42_method_139_code 3 = .ok (.ifCond .eq 23, 3) := by decide +kernel
theorem d1_6 : decode jdk_42_method_139_code 6 = .ok (.iload_n 0, 1) := by decide +kernel
theorem d1_7 : decode jdk_42_method_139_code 7 = .ok (.invokestatic 1015, 3) := by decide +kernel
theorem w_10 {Z : State} {a0 : Array Value} (hw : ∀ d ∈ tables_1, d.before a0 Z = true) : Jvm.Cond.before (Jvm.Cond.code ({ cls := "java/lang/StringLatin1", name := "canEncode", desc := "(C)Z" } : Jvm.MethodName) jdk_43_method_3_code (1 : Nat) (Option.some Jvm.ClassFile.FieldType.boolean)) a0 Z = true := hw _ (List.mem_of_getElem? (i := 10) rfl)
theorem w_7 {Z : State} {a0 : Array Value} (hw : ∀ d ∈ tables_1, d.before a0 Z = true) : Jvm.Cond.before (Jvm.Cond.methodLink "java/lang/String" (1015 : Nat) ({ cls := "java/lang/StringLatin1", name := "canEncode", desc := "(C)Z" } : Jvm.MethodName)) a0 Z = true := hw _ (List.mem_of_getElem? (i := 7) rfl)
theorem pd_33 : parseMethodDescriptor "(C)Z" = some ⟨[.char], some .boolean⟩ := by decide +kernel
theorem w_8 {Z : State} {a0 : Array Value} (hw : ∀ d ∈ tables_1, d.before a0 Z = true) : Jvm.Cond.before (Jvm.Cond.static ({ cls := "java/lang/StringLatin1", name := "canEncode", desc := "(C)Z" } : Jvm.MethodName)) a0 Z = true := hw _ (List.mem_of_getElem? (i := 8) rfl)
theorem b_21 (hw : OwnW a0 Z) : CallS "java/lang/String" 1015 (⟨"java/lang/StringLatin1", "canEncode", "(C)Z"⟩ : MethodName) jdk_43_method_3_code (1 : Nat) (Option.some Jvm.ClassFile.FieldType.boolean) a0 Z := ⟨(w_7 hw), (w_8 hw), (w_9 hw), (w_10 hw)⟩
theorem d1_10 : decode jdk_42_method_139_code 10 = .ok (.ifCond .eq 16, 3) := by decide +kernel
theorem d1_13 : decode jdk_42_method_139_code 13 = .ok (.new 10, 3) := by decide +kernel
theorem w_11 {Z : State} {a0 : Array Value} (hw : ∀ d ∈ tables_1, d.before a0 Z = true) : Jvm.Cond.before (Jvm.Cond.classLink "java/lang/String" (10 : Nat) "java/lang/String") a0 Z = true := hw _ (List.mem_of_getElem? (i := 11) rfl)
theorem d1_16 : decode jdk_42_method_139_code 16 = .ok (.dup, 1) := by decide +kernel
theorem d1_17 : decode jdk_42_method_139_code 17 = .ok (.iload_n 0, 1) := by decide +kernel
theorem d1_18 : decode jdk_42_method_139_code 18 = .ok (.invokestatic 1018, 3) := by decide +kernel
theorem w_15 {Z : State} {a0 : Array Value} (hw : ∀ d ∈ tables_1, d.before a0 Z = true) : Jvm.Cond.before (Jvm.Cond.code ({ cls := "java/lang/StringLatin1", name := "toBytes", desc := "(C)[B" } : Jvm.MethodName) jdk_43_method_46_code (1 : Nat) (Option.some (Jvm.ClassFile.FieldType.array Jvm.ClassFile.FieldType.byte))) a0 Z = true := hw _ (List.mem_of_getElem? (i := 15) rfl)
theorem w_13 {Z : State} {a0 : Array Value} (hw : ∀ d ∈ tables_1, d.before a0 Z = true) : Jvm.Cond.before (Jvm.Cond.methodLink "java/lang/String" (1018 : Nat) ({ cls := "java/lang/StringLatin1", name := "toBytes", desc := "(C)[B" } : Jvm.MethodName)) a0 Z = true := hw _ (List.mem_of_getElem? (i := 13) rfl)
theorem pd_34 : parseMethodDescriptor "(C)[B" = some ⟨[.char], some (.array .byte)⟩ := by decide +kernel
theorem w_14 {Z : State} {a0 : Array Value} (hw : ∀ d ∈ tables_1, d.before a0 Z = true) : Jvm.Cond.before (Jvm.Cond.static ({ cls := "java/lang/StringLatin1", name := "toBytes", desc := "(C)[B" } : Jvm.MethodName)) a0 Z = true := hw _ (List.mem_of_getElem? (i := 14) rfl)
theorem d1_21 : decode jdk_42_method_139_code 21 = .ok (.iconst 0, 1) := by decide +kernel
theorem d1_22 : decode jdk_42_method_139_code 22 = .ok (.invokespecial 209, 3) := by decide +kernel
theorem w_20 {Z : State} {a0 : Array Value} (hw : ∀ d ∈ tables_1, d.before a0 Z = true) : Jvm.Cond.before (Jvm.Cond.code ({ cls := "java/lang/String", name := "<init>", desc := "([BB)V" } : Jvm.MethodName) jdk_42_method_151_code (3 : Nat) (Option.none : Option Jvm.ClassFile.FieldType)) a0 Z = true := hw _ (List.mem_of_getElem? (i := 20) rfl)
theorem w_17 {Z : State} {a0 : Array Value} (hw : ∀ d ∈ tables_1, d.before a0 Z = true) : Jvm.Cond.before (Jvm.Cond.methodLink "java/lang/String" (209 : Nat) ({ cls := "java/lang/String", name := "<init>", desc := "([BB)V" } : Jvm.MethodName)) a0 Z = true := hw _ (List.mem_of_getElem? (i := 17) rfl)
theorem pd_35 : parseMethodDescriptor "([BB)V" = some ⟨[(.array .byte), .byte], none⟩ := by decide +kernel
theorem w_18 {Z : State} {a0 : Array Value} (hw : ∀ d ∈ tables_1, d.before a0 Z = true) : Jvm.Cond.before (Jvm.Cond.instanceMethod ({ cls := "java/lang/String", name := "<init>", desc := "([BB)V" } : Jvm.MethodName)) a0 Z = true := hw _ (List.mem_of_getElem? (i := 18) rfl)
theorem d1_25 : decode jdk_42_method_139_code 25 = .ok (.areturn, 1) := by decide +kernel
def Q1 (Z : State) (c1 : Int32) (cs1 : Int32) (h0 : Heap) (n0 : Nat) (v : Option Value) (h : Heap) (L : List Loc) : Prop := ∃ (o3 : Addr) (o4 : Addr) (kd3 : ClassId), v = some (.ref o3) ∧ Fr n0 L ∧ h0.size ≤ o3 ∧ h0.size ≤ o4 ∧ Keep h0 h [] ∧ OEs Z h o3 ∧ OFv Z h o3 (.ref o4) ∧ OFc Z h o3 ∧ Arv Z h o4 kd3 .byte 1 [(.int (nar .byte c1.toInt8.toInt32))] (.int 0)
abbrev y1 : MethodName := (⟨"java/lang/String", "valueOf", "(C)Ljava/lang/String;"⟩ : MethodName)
theorem rm1 {c1 cs1 : Int32} (hw : OwnW a0 Z) (Z0 : n0 ≤ h0.size) (F0 : OSc Z h0 cs1) (la1 : ¬ (255 : Int32) < c1) (hcs : ¬ cs1 = (0 : Int32)) : OwnMF l Z y1 jdk_42_method_139_code 1 (some (.object "java/lang/String")) ws ⟨2, 2, 5, 27⟩ #[(.int c1)] h0 (Q1 Z c1 cs1 h0 n0) := by
  refine bo (plainFor_of_name pn_1) ?_
  intro p e s m below meth c T0 G C hnm hnamed X0 e0 K
  have N0 := Fr.nil n0
  refine Goes.to (congrArg T0.setTop (ef_1i m c1)) ?_
  have K00 := Keep.refl h0 []
  refine g_getS C X0 (w_6 hw) Via.refl e0 F0 d1_0 3 (fun T1 X1 e1 => ?_)
  refine g_if_eq C X1 d1_3 26 6 (fun hc3 => absurd hc3 hcs) (fun hc3 => ?_)
  refine g_iloadN C X1 d1_6 7 rfl ?_
  refine g_callS0 C X1 (b_21 hw) d1_7 [(.int c1)] [] 0 (rm2 hw Z0) N0 pd_33 e1 10 (fun T2 _ X2 N2 e2 => ?_)
  obtain ⟨r2, hr2⟩ : ∃ z : Int32, fCan c1 = z := ⟨_, rfl⟩
  rw [hr2]
  refine g_if_eq C X2 d1_10 26 13 (fun hc10 => absurd (hr2.symm.trans (own_can la1)) (by rw [hc10]; decide)) (fun hc10 => ?_)
  refine g_new C X2 (w_11 hw) (w_12 hw) (w_4 hw) e2 d1_13 16 (by decide) (by decide) (fun T3 h3 b3 X3 e3 g3 E3 A3 D3 => ?_)
  have gn_b3 : n0 ≤ b3 := Nat.le_trans Z0 (Nat.le_of_eq g3.symm)
  have Z3 := Nat.le_trans Z0 E3.1
  have sz_b3 : h0.size ≤ b3 := Nat.le_trans K00.1 (Nat.le_of_eq g3.symm)
  have K3 := K00.ext E3
  have f5 : OFv Z h3 b3 .null := D3 (Or.inr (w_25 hw)) (ty := (.array .byte)) (by decide)
  have f6 : OFc Z h3 b3 := D3 (Or.inr (w_27 hw)) (ty := .byte) (by decide)
  refine g_dup C X3 d1_16 17 rfl ?_
  refine g_iloadN C X3 d1_17 18 rfl ?_
  refine g_callS C X3 (w_13 hw) (w_14 hw) (w_9 hw) (w_15 hw) d1_18 [(.int c1)] [(.ref b3), (.ref b3)] 2 (rm3 hw Z3 ) pd_34 e3 21 (fun u7 T7 L7 X7 hQ7 => ?_)
  obtain ⟨o37, kd37, rfl, Nq7, szo37, Kq7, q7_0⟩ := hQ7
  have N7 := Fr.app N2 Nq7
  have n8 : b3 ≠ o37 := Nat.ne_of_lt (Nat.lt_of_lt_of_le A3.lt szo37)
  have f10 := A3.keep Kq7
  have f11 := f5.keep Kq7 nin0
  have f12 := f6.keep Kq7 nin0
  have Z7 := Nat.le_trans Z3 Kq7.1
  have sz_o37 : h0.size ≤ o37 := Nat.le_trans K3.1 szo37
  have K7 := K3.trans Kq7 all0
  refine ret1 ?_
  refine g_iconst C X7 d1_21 22 (v := 0) rfl ?_
  refine g_callI C X7 rfl (w_17 hw) (w_18 hw) (w_4 hw) (w_20 hw) d1_22 [(.ref o37), (.int 0)] [(.ref b3)] 1 (rm4 hw Z7 f10 f11 f12 gn_b3) pd_35 rfl 25 (fun u13 T13 L13 X13 hQ13 => ?_)
  obtain ⟨rfl, Nq13, Kq13, q13_0, q13_1, q13_2⟩ := hQ13
  have N13 := Fr.app N7 Nq13
  have f16 := q7_0.keep Kq13 (ninS (Ne.symm n8) nin0)
  have K13 := K7.trans Kq13 (allS (Or.inr sz_b3) all0)
  refine ret0 ?_
  exact g_retA C X13 K rfl rfl rfl d1_25 (by decide) (by decide) rfl ⟨b3, o37, kd37, rfl, N13, sz_b3, sz_o37, K13, q13_0, q13_1, q13_2, f16⟩
theorem ef_7rr (m : MethodId) (a1 : Addr) (a2 : Addr) : entryFrame m #[(.ref a1), (.ref a2)] 3 = mkF m 0 #[rv a1, rv a2, uu] [] := by first | (simp [entryFrame, mkF, argsToLocals, Value.category, iv, rv, jv, nv, uu, sd]; done) | rfl
theorem d7_0 : decode jdk_42_method_66_code 0 = .ok (.aload_n 0, 1) := by decide +kernel
theorem d7_1 : decode jdk_42_method_66_code 1 = .ok (.aload_n 1, 1) := by decide +kernel
theorem d7_2 : decode jdk_42_method_66_code 2 = .ok (.if_acmp .ne 5, 3) := by decide +kernel
theorem d7_5 : decode jdk_42_method_66_code 5 = .ok (.iconst 1, 1) := by decide +kernel
theorem d7_6 : decode jdk_42_method_66_code 6 = .ok (.ireturn, 1) := by decide +kernel
abbrev y7 : MethodName := (⟨"java/lang/String", "equals", "(Ljava/lang/Object;)Z"⟩ : MethodName)
theorem rm7 {o1 o2 : Addr} (hw : OwnW a0 Z) (Z0 : n0 ≤ h0.size) (hs : o1 = o2) : OwnMF l Z y7 jdk_42_method_66_code 3 (some .boolean) ws ⟨0, 0, 0, 0⟩ #[(.ref o1), (.ref o2)] h0 (OwnQ (some (.int 1)) h0 n0) := by
  refine bo (plainFor_of_name pn_1) ?_
  intro p e s m below meth c T0 G C hnm hnamed X0 e0 K
  have N0 := Fr.nil n0
  refine Goes.to (congrArg T0.setTop (ef_7rr m o1 o2)) ?_
  refine g_aloadN C X0 d7_0 1 rfl rfl ?_
  refine g_aloadN C X0 d7_1 2 rfl rfl ?_
  refine g_acmp_ne C X0 rfl rfl d7_2 7 5 (fun hc2 => absurd (congrArg Value.ref hs) hc2) (fun hc2 => ?_)
  refine g_iconst C X0 d7_5 6 (v := 1) rfl ?_
  exact g_retN C X0 K (by simp) d7_6 (by decide) (by decide) e0 ⟨rfl, N0, rfl⟩
theorem ef_0iiii (m : MethodId) (a1 : Int32) (a2 : Int32) (a3 : Int32) (a4 : Int32) : entryFrame m #[(.int a1), (.int a2), (.int a3), (.int a4)] maxLocals = mkF m 0 #[iv a1, iv a2, iv a3, iv a4, uu, uu, uu, uu, uu, uu, uu, uu, uu, uu, uu, uu, uu, uu, uu, uu, uu, uu] [] := by first | (simp [entryFrame, mkF, argsToLocals, Value.category, iv, rv, jv, nv, uu, sd, maxLocals]; done) | rfl
theorem w_0 {Z : State} {a0 : Array Value} (hw : ∀ d ∈ tables_1, d.before a0 Z = true) : Jvm.Cond.before (Jvm.Cond.arrayClass Jvm.ClassFile.FieldType.char) a0 Z = true := hw _ (List.mem_of_getElem? (i := 0) rfl)
theorem w_1 {Z : State} {a0 : Array Value} (hw : ∀ d ∈ tables_1, d.before a0 Z = true) : Jvm.Cond.before (Jvm.Cond.constant "com/example/firer/firer/formats/ParserMessagesAtPinLaw" (7 : Nat) (2147483647 : Int32)) a0 Z = true := hw _ (List.mem_of_getElem? (i := 1) rfl)
theorem w_242 {Z : State} {a0 : Array Value} (hw : ∀ d ∈ tables_1, d.before a0 Z = true) : Jvm.Cond.before (Jvm.Cond.classLink "com/example/firer/firer/formats/ParserMessagesAtPinLaw" (8 : Nat) "java/lang/String") a0 Z = true := hw _ (List.mem_of_getElem? (i := 242) rfl)
theorem w_245 {Z : State} {a0 : Array Value} (hw : ∀ d ∈ tables_1, d.before a0 Z = true) : Jvm.Cond.before (Jvm.Cond.code ({ cls := "java/lang/String", name := "<init>", desc := "([C)V" } : Jvm.MethodName) jdk_42_method_3_code (2 : Nat) (Option.none : Option Jvm.ClassFile.FieldType)) a0 Z = true := hw _ (List.mem_of_getElem? (i := 245) rfl)
theorem w_243 {Z : State} {a0 : Array Value} (hw : ∀ d ∈ tables_1, d.before a0 Z = true) : Jvm.Cond.before (Jvm.Cond.methodLink "com/example/firer/firer/formats/ParserMessagesAtPinLaw" (10 : Nat) ({ cls := "java/lang/String", name := "<init>", desc := "([C)V" } : Jvm.MethodName)) a0 Z = true := hw _ (List.mem_of_getElem? (i := 243) rfl)
theorem pd_36 : parseMethodDescriptor "([C)V" = some ⟨[(.array .char)], none⟩ := by decide +kernel
theorem w_244 {Z : State} {a0 : Array Value} (hw : ∀ d ∈ tables_1, d.before a0 Z = true) : Jvm.Cond.before (Jvm.Cond.instanceMethod ({ cls := "java/lang/String", name := "<init>", desc := "([C)V" } : Jvm.MethodName)) a0 Z = true := hw _ (List.mem_of_getElem? (i := 244) rfl)
theorem w_31 {Z : State} {a0 : Array Value} (hw : ∀ d ∈ tables_1, d.before a0 Z = true) : Jvm.Cond.before (Jvm.Cond.code ({ cls := "com/example/firer/firer/formats/ParserMessages", name := "at", desc := "(IILjava/lang/String;)Ljava/lang/String;" } : Jvm.MethodName) prog_33_method_2_code (4 : Nat) (Option.some (Jvm.ClassFile.FieldType.object "java/lang/String"))) a0 Z = true := hw _ (List.mem_of_getElem? (i := 31) rfl)
theorem w_30 {Z : State} {a0 : Array Value} (hw : ∀ d ∈ tables_1, d.before a0 Z = true) : Jvm.Cond.before (Jvm.Cond.initialized "com/example/firer/firer/formats/ParserMessages") a0 Z = true := hw _ (List.mem_of_getElem? (i := 30) rfl)
theorem w_28 {Z : State} {a0 : Array Value} (hw : ∀ d ∈ tables_1, d.before a0 Z = true) : Jvm.Cond.before (Jvm.Cond.methodLink "com/example/firer/firer/formats/ParserMessagesAtPinLaw" (17 : Nat) ({ cls := "com/example/firer/firer/formats/ParserMessages", name := "at", desc := "(IILjava/lang/String;)Ljava/lang/String;" } : Jvm.MethodName)) a0 Z = true := hw _ (List.mem_of_getElem? (i := 28) rfl)
theorem pd_37 : parseMethodDescriptor "(IILjava/lang/String;)Ljava/lang/String;" = some ⟨[.int, .int, (.object "java/lang/String")], some (.object "java/lang/String")⟩ := by decide +kernel
theorem w_29 {Z : State} {a0 : Array Value} (hw : ∀ d ∈ tables_1, d.before a0 Z = true) : Jvm.Cond.before (Jvm.Cond.static ({ cls := "com/example/firer/firer/formats/ParserMessages", name := "at", desc := "(IILjava/lang/String;)Ljava/lang/String;" } : Jvm.MethodName)) a0 Z = true := hw _ (List.mem_of_getElem? (i := 29) rfl)
theorem w_191 {Z : State} {a0 : Array Value} (hw : ∀ d ∈ tables_1, d.before a0 Z = true) : Jvm.Cond.before (Jvm.Cond.code ({ cls := "com/example/firer/firer/formats/ParserMessagesAtPinLaw", name := "numLen", desc := "(J)I" } : Jvm.MethodName) method_3_code (2 : Nat) (Option.some Jvm.ClassFile.FieldType.int)) a0 Z = true := hw _ (List.mem_of_getElem? (i := 191) rfl)
theorem w_188 {Z : State} {a0 : Array Value} (hw : ∀ d ∈ tables_1, d.before a0 Z = true) : Jvm.Cond.before (Jvm.Cond.methodLink "com/example/firer/firer/formats/ParserMessagesAtPinLaw" (27 : Nat) ({ cls := "com/example/firer/firer/formats/ParserMessagesAtPinLaw", name := "numLen", desc := "(J)I" } : Jvm.MethodName)) a0 Z = true := hw _ (List.mem_of_getElem? (i := 188) rfl)
theorem pd_38 : parseMethodDescriptor "(J)I" = some ⟨[.long], some .int⟩ := by decide +kernel
theorem w_189 {Z : State} {a0 : Array Value} (hw : ∀ d ∈ tables_1, d.before a0 Z = true) : Jvm.Cond.before (Jvm.Cond.static ({ cls := "com/example/firer/firer/formats/ParserMessagesAtPinLaw", name := "numLen", desc := "(J)I" } : Jvm.MethodName)) a0 Z = true := hw _ (List.mem_of_getElem? (i := 189) rfl)
theorem b_22 (hw : OwnW a0 Z) : CallS "com/example/firer/firer/formats/ParserMessagesAtPinLaw" 27 (⟨"com/example/firer/firer/formats/ParserMessagesAtPinLaw", "numLen", "(J)I"⟩ : MethodName) method_3_code (2 : Nat) (Option.some Jvm.ClassFile.FieldType.int) a0 Z := ⟨(w_188 hw), (w_189 hw), (w_190 hw), (w_191 hw)⟩
theorem w_198 {Z : State} {a0 : Array Value} (hw : ∀ d ∈ tables_1, d.before a0 Z = true) : Jvm.Cond.before (Jvm.Cond.code ({ cls := "com/example/firer/firer/formats/ParserMessagesAtPinLaw", name := "sameAt", desc := "(Ljava/lang/String;ILjava/lang/String;)Z" } : Jvm.MethodName) method_8_code (3 : Nat) (Option.some Jvm.ClassFile.FieldType.boolean)) a0 Z = true := hw _ (List.mem_of_getElem? (i := 198) rfl)
theorem w_196 {Z : State} {a0 : Array Value} (hw : ∀ d ∈ tables_1, d.before a0 Z = true) : Jvm.Cond.before (Jvm.Cond.methodLink "com/example/firer/firer/formats/ParserMessagesAtPinLaw" (39 : Nat) ({ cls := "com/example/firer/firer/formats/ParserMessagesAtPinLaw", name := "sameAt", desc := "(Ljava/lang/String;ILjava/lang/String;)Z" } : Jvm.MethodName)) a0 Z = true := hw _ (List.mem_of_getElem? (i := 196) rfl)
theorem pd_39 : parseMethodDescriptor "(Ljava/lang/String;ILjava/lang/String;)Z" = some ⟨[(.object "java/lang/String"), .int, (.object "java/lang/String")], some .boolean⟩ := by decide +kernel
theorem w_197 {Z : State} {a0 : Array Value} (hw : ∀ d ∈ tables_1, d.before a0 Z = true) : Jvm.Cond.before (Jvm.Cond.static ({ cls := "com/example/firer/firer/formats/ParserMessagesAtPinLaw", name := "sameAt", desc := "(Ljava/lang/String;ILjava/lang/String;)Z" } : Jvm.MethodName)) a0 Z = true := hw _ (List.mem_of_getElem? (i := 197) rfl)
theorem b_23 (hw : OwnW a0 Z) : CallS "com/example/firer/firer/formats/ParserMessagesAtPinLaw" 39 (⟨"com/example/firer/firer/formats/ParserMessagesAtPinLaw", "sameAt", "(Ljava/lang/String;ILjava/lang/String;)Z"⟩ : MethodName) method_8_code (3 : Nat) (Option.some Jvm.ClassFile.FieldType.boolean) a0 Z := ⟨(w_196 hw), (w_197 hw), (w_190 hw), (w_198 hw)⟩
theorem w_225 {Z : State} {a0 : Array Value} (hw : ∀ d ∈ tables_1, d.before a0 Z = true) : Jvm.Cond.before (Jvm.Cond.code ({ cls := "com/example/firer/firer/formats/ParserMessagesAtPinLaw", name := "digitsAt", desc := "(Ljava/lang/String;IJI)Z" } : Jvm.MethodName) method_6_code (5 : Nat) (Option.some Jvm.ClassFile.FieldType.boolean)) a0 Z = true := hw _ (List.mem_of_getElem? (i := 225) rfl)
theorem w_223 {Z : State} {a0 : Array Value} (hw : ∀ d ∈ tables_1, d.before a0 Z = true) : Jvm.Cond.before (Jvm.Cond.methodLink "com/example/firer/firer/formats/ParserMessagesAtPinLaw" (43 : Nat) ({ cls := "com/example/firer/firer/formats/ParserMessagesAtPinLaw", name := "digitsAt", desc := "(Ljava/lang/String;IJI)Z" } : Jvm.MethodName)) a0 Z = true := hw _ (List.mem_of_getElem? (i := 223) rfl)
theorem pd_40 : parseMethodDescriptor "(Ljava/lang/String;IJI)Z" = some ⟨[(.object "java/lang/String"), .int, .long, .int], some .boolean⟩ := by decide +kernel
theorem w_224 {Z : State} {a0 : Array Value} (hw : ∀ d ∈ tables_1, d.before a0 Z = true) : Jvm.Cond.before (Jvm.Cond.static ({ cls := "com/example/firer/firer/formats/ParserMessagesAtPinLaw", name := "digitsAt", desc := "(Ljava/lang/String;IJI)Z" } : Jvm.MethodName)) a0 Z = true := hw _ (List.mem_of_getElem? (i := 224) rfl)
theorem b_24 (hw : OwnW a0 Z) : CallS "com/example/firer/firer/formats/ParserMessagesAtPinLaw" 17 (⟨"com/example/firer/firer/formats/ParserMessages", "at", "(IILjava/lang/String;)Ljava/lang/String;"⟩ : MethodName) prog_33_method_2_code (4 : Nat) (Option.some (Jvm.ClassFile.FieldType.object "java/lang/String")) a0 Z := ⟨(w_28 hw), (w_29 hw), (w_30 hw), (w_31 hw)⟩
theorem w_36 {Z : State} {a0 : Array Value} (hw : ∀ d ∈ tables_1, d.before a0 Z = true) : Jvm.Cond.before (Jvm.Cond.code ({ cls := "java/lang/String", name := "equals", desc := "(Ljava/lang/Object;)Z" } : Jvm.MethodName) jdk_42_method_66_code (3 : Nat) (Option.some Jvm.ClassFile.FieldType.boolean)) a0 Z = true := hw _ (List.mem_of_getElem? (i := 36) rfl)
theorem w_32 {Z : State} {a0 : Array Value} (hw : ∀ d ∈ tables_1, d.before a0 Z = true) : Jvm.Cond.before (Jvm.Cond.methodLink "com/example/firer/firer/formats/ParserMessagesAtPinLaw" (23 : Nat) ({ cls := "java/lang/String", name := "equals", desc := "(Ljava/lang/Object;)Z" } : Jvm.MethodName)) a0 Z = true := hw _ (List.mem_of_getElem? (i := 32) rfl)
theorem pd_41 : parseMethodDescriptor "(Ljava/lang/Object;)Z" = some ⟨[(.object "java/lang/Object")], some .boolean⟩ := by decide +kernel
theorem w_33 {Z : State} {a0 : Array Value} (hw : ∀ d ∈ tables_1, d.before a0 Z = true) : Jvm.Cond.before (Jvm.Cond.declares ({ cls := "java/lang/String", name := "equals", desc := "(Ljava/lang/Object;)Z" } : Jvm.MethodName)) a0 Z = true := hw _ (List.mem_of_getElem? (i := 33) rfl)
theorem w_35 {Z : State} {a0 : Array Value} (hw : ∀ d ∈ tables_1, d.before a0 Z = true) : Jvm.Cond.before (Jvm.Cond.selects "java/lang/String" ({ cls := "java/lang/String", name := "equals", desc := "(Ljava/lang/Object;)Z" } : Jvm.MethodName) ({ cls := "java/lang/String", name := "equals", desc := "(Ljava/lang/Object;)Z" } : Jvm.MethodName)) a0 Z = true := hw _ (List.mem_of_getElem? (i := 35) rfl)
theorem w_34 {Z : State} {a0 : Array Value} (hw : ∀ d ∈ tables_1, d.before a0 Z = true) : Jvm.Cond.before (Jvm.Cond.instanceMethod ({ cls := "java/lang/String", name := "equals", desc := "(Ljava/lang/Object;)Z" } : Jvm.MethodName)) a0 Z = true := hw _ (List.mem_of_getElem? (i := 34) rfl)
theorem b_25 (hw : OwnW a0 Z) : CallV "com/example/firer/firer/formats/ParserMessagesAtPinLaw" 23 (⟨"java/lang/String", "equals", "(Ljava/lang/Object;)Z"⟩ : MethodName) "java/lang/String" jdk_42_method_66_code (3 : Nat) (Option.some Jvm.ClassFile.FieldType.boolean) a0 Z := ⟨(w_32 hw), (w_33 hw), (w_35 hw), (w_34 hw), (w_36 hw), (w_4 hw)⟩
theorem w_5 {Z : State} {a0 : Array Value} (hw : ∀ d ∈ tables_1, d.before a0 Z = true) : Jvm.Cond.before (Jvm.Cond.code ({ cls := "java/lang/String", name := "valueOf", desc := "(C)Ljava/lang/String;" } : Jvm.MethodName) jdk_42_method_139_code (1 : Nat) (Option.some (Jvm.ClassFile.FieldType.object "java/lang/String"))) a0 Z = true := hw _ (List.mem_of_getElem? (i := 5) rfl)
theorem w_2 {Z : State} {a0 : Array Value} (hw : ∀ d ∈ tables_1, d.before a0 Z = true) : Jvm.Cond.before (Jvm.Cond.methodLink "com/example/firer/firer/formats/ParserMessagesAtPinLaw" (13 : Nat) ({ cls := "java/lang/String", name := "valueOf", desc := "(C)Ljava/lang/String;" } : Jvm.MethodName)) a0 Z = true := hw _ (List.mem_of_getElem? (i := 2) rfl)
theorem pd_42 : parseMethodDescriptor "(C)Ljava/lang/String;" = some ⟨[.char], some (.object "java/lang/String")⟩ := by decide +kernel
theorem w_3 {Z : State} {a0 : Array Value} (hw : ∀ d ∈ tables_1, d.before a0 Z = true) : Jvm.Cond.before (Jvm.Cond.static ({ cls := "java/lang/String", name := "valueOf", desc := "(C)Ljava/lang/String;" } : Jvm.MethodName)) a0 Z = true := hw _ (List.mem_of_getElem? (i := 3) rfl)
def Q0 (Z : State) (p0 : Int32) (p1 : Int32) (p2 : Int32) (p3 : Int32) (cs1 : Int32) (wf1 : Value) (o7 o8 : Addr) (kd7 kd8 : ClassId) (h0 : Heap) (n0 : Nat) (v : Option Value) (h : Heap) (L : List Loc) : Prop := v = some (.int 1) ∧ Fr n0 L
set_option maxRecDepth 65536 in
set_option maxHeartbeats 40000000 in
theorem rm0 (l : Launch) (Z : State) (a0 : Array Value) (hw : ∀ d ∈ tables_1, d.before a0 Z = true) (ws : List Jvm.Cond) (p0 : Int32) (p1 : Int32) (p2 : Int32) (p3 : Int32) (cs1 : Int32) (wf1 : Value) (o7 o8 : Addr) (kd7 kd8 : ClassId) (h0 : Heap) (n0 : Nat) (Z0 : n0 ≤ h0.size) (hEL : EW Z a0 EL) (F0 : OSc Z h0 cs1) (F1 : OSf Z h0 wf1) (F2 : Sta Z h0 "java/lang/Integer" "DigitOnes" "[B" (.ref o7)) (F3 : Sta Z h0 "java/lang/Integer" "DigitTens" "[B" (.ref o8)) (F4 : Arv Z h0 o7 kd7 .byte (Int32.ofNat 100) (onesL.map Value.int) (.int 0)) (F5 : Arv Z h0 o8 kd8 .byte (Int32.ofNat 100) (tensL.map Value.int) (.int 0)) (hcs : ¬ cs1 = (0 : Int32)) (hwf : wf1.isRef = true) :
    OwnMFH l Z EL x code maxLocals ret ws room_1 #[(.int p0), (.int p1), (.int p2), (.int p3)] h0 (Q0 Z p0 p1 p2 p3 cs1 wf1 o7 o8 kd7 kd8 h0 n0) := by
  refine body_ofH (y := x) (Q := Q0 Z p0 p1 p2 p3 cs1 wf1 o7 o8 kd7 kd8 h0 n0) (plainFor_of_name pn_0) ?_
  intro p e s m below meth c T0 G C hnm hnamed X0 e0 hh0 hS0 H0_ R0_ K
  have N0 := Fr.nil n0
  refine Goes.to (congrArg T0.setTop (ef_0iiii m p0 p1 p2 p3)) ?_
  refine g_iconst C X0 at_0 1 (v := 2) rfl ?_
  refine g_newA (aty := .char) (n := (2 : Int32)) C X0 (cap := 2) (w_0 hw) e0 at_1 3 (by decide) (by decide) (by decide) (by decide) (by decide) (fun T1 h1 b1 ki1 X1 e1 g1 E1 A1 => ?_)
  have n2 : o7 ≠ b1 := Nat.ne_of_lt (Nat.lt_of_lt_of_eq F4.lt g1.symm)
  have n3 : o8 ≠ b1 := Nat.ne_of_lt (Nat.lt_of_lt_of_eq F5.lt g1.symm)
  have f4 := F0.ext E1
  have f5 := F1.ext E1
  have f6 := F2.ext E1
  have f7 := F3.ext E1
  have f8 := F4.ext E1
  have f9 := F5.ext E1
  have gn_b1 : n0 ≤ b1 := Nat.le_trans Z0 (Nat.le_of_eq g1.symm)
  have Z1 := Nat.le_trans Z0 E1.1
  have hk1 := Nat.le_trans (Nat.zero_le _) E1.1
  have H_1 := H0_.ext E1
  have R_1 := R0_.trans (CHr.ext E1 H0_)
  have f10 : Arv Z h1 b1 ki1 .char 2 [(.int 0), (.int 0)] (.int 0) := A1.pad (pad_rep [] (.int 0) 2)
  refine g_astore C X1 at_3 5 rfl (ls' := #[iv p0, iv p1, iv p2, iv p3, rv b1, uu, uu, uu, uu, uu, uu, uu, uu, uu, uu, uu, uu, uu, uu, uu, uu, uu]) rfl ?_
  refine g_aload C X1 at_5 7 rfl rfl ?_
  refine g_iconst C X1 at_7 8 (v := 0) rfl ?_
  refine g_iloadN C X1 at_8 9 rfl ?_
  refine g_sipush C X1 at_9 12 (v := 255) rfl ?_
  refine g_iand C X1 at_12 13 ?_
  refine g_i2c C X1 at_13 14 ?_
  refine g_castore C X1 (i := 0) e1 f10 (by decide) rfl (Nat.le_of_ble_eq_true rfl) at_14 15 (fun T11 h11 X11 e11 W11 A11 => ?_)
  have f12 := f4.wr W11
  have f13 := f5.wr W11
  have f14 := f6.wr W11
  have f15 := f7.wr W11
  have f16 := f8.other W11 n2
  have f17 := f9.other W11 n3
  have f18 : Arv Z h11 b1 ki1 .char 2 [(.int (nar .char (p2 &&& (255 : Int32)).toUInt32.toUInt16.toUInt32.toInt32)), (.int 0)] (.int 0) := A11
  have N11 := Fr.snoc X11 N0 gn_b1
  have Z11 := Nat.le_trans Z1 (Nat.le_of_eq W11.size.symm)
  have hk11 := Nat.le_trans hk1 (Nat.le_of_eq W11.size.symm)
  have H_11 := H_1.wr W11 (safe_arv C.2.1.alike f10 (by decide))
  have R_11 := R_1.trans (CHr.wr W11 (safe_arv C.2.1.alike f10 (by decide)) H_1)
  refine g_aload C X11 at_15 17 rfl rfl ?_
  refine g_iconst C X11 at_17 18 (v := 1) rfl ?_
  refine g_iloadN C X11 at_18 19 rfl ?_
  refine g_bipush C X11 at_19 21 (v := 8) rfl ?_
  refine g_iushr C X11 at_21 22 ?_
  refine g_sipush C X11 at_22 25 (v := 255) rfl ?_
  refine g_iand C X11 at_25 26 ?_
  refine g_i2c C X11 at_26 27 ?_
  refine g_castore C X11 (i := 1) e11 f18 (by decide) rfl (Nat.le_of_ble_eq_true rfl) at_27 28 (fun T19 h19 X19 e19 W19 A19 => ?_)
  have f20 := f12.wr W19
  have f21 := f13.wr W19
  have f22 := f14.wr W19
  have f23 := f15.wr W19
  have f24 := f16.other W19 n2
  have f25 := f17.other W19 n3
  have f26 : Arv Z h19 b1 ki1 .char 2 [(.int (nar .char (p2 &&& (255 : Int32)).toUInt32.toUInt16.toUInt32.toInt32)), (.int (nar .char ((XT.ushr p2 (8 : Int32)) &&& (255 : Int32)).toUInt32.toUInt16.toUInt32.toInt32))] (.int 0) := A19
  have N19 := Fr.snoc X19 N11 gn_b1
  have Z19 := Nat.le_trans Z11 (Nat.le_of_eq W19.size.symm)
  have hk19 := Nat.le_trans hk11 (Nat.le_of_eq W19.size.symm)
  have H_19 := H_11.wr W19 (safe_arv C.2.1.alike f18 (by decide))
  have R_19 := R_11.trans (CHr.wr W19 (safe_arv C.2.1.alike f18 (by decide)) H_11)
  refine g_iconst C X19 at_28 29 (v := 0) rfl ?_
  refine g_newA (aty := .char) (n := (0 : Int32)) C X19 (cap := 0) (w_0 hw) e19 at_29 31 (by decide) (by decide) (by decide) (by decide) (by decide) (fun T27 h27 b27 ki27 X27 e27 g27 E27 A27 => ?_)
  have f31 := f20.ext E27
  have f32 := f21.ext E27
  have f33 := f22.ext E27
  have f34 := f23.ext E27
  have f35 := f24.ext E27
  have f36 := f25.ext E27
  have f37 := f26.ext E27
  have Z27 := Nat.le_trans Z19 E27.1
  have hk27 := Nat.le_trans hk19 E27.1
  have H_27 := H_19.ext E27
  have R_27 := R_19.trans (CHr.ext E27 H_19)
  have f38 : Arv Z h27 b27 ki27 .char 0 [] (.int 0) := A27
  refine g_astore C X27 at_31 33 rfl (ls' := #[iv p0, iv p1, iv p2, iv p3, rv b1, rv b27, uu, uu, uu, uu, uu, uu, uu, uu, uu, uu, uu, uu, uu, uu, uu, uu]) rfl ?_
  refine g_iloadN C X27 at_33 34 rfl ?_
  refine g_ldc C X27 (w_1 hw) at_34 36 ?_
  refine g_iand C X27 at_36 37 ?_
  refine g_iconst C X27 at_37 38 (v := 3) rfl ?_
  refine g_irem C X27 at_38 39 (by decide) ?_
  obtain ⟨k3, hk3⟩ : ∃ z : Int32, ((p3 &&& (2147483647 : Int32)) % (3 : Int32)) = z := ⟨_, rfl⟩
  rw [hk3]
  refine g_istore C X27 at_39 41 (w := k3) rfl (ls' := #[iv p0, iv p1, iv p2, iv p3, rv b1, rv b27, iv k3, uu, uu, uu, uu, uu, uu, uu, uu, uu, uu, uu, uu, uu, uu, uu]) rfl ?_
  rcases own_r3 hk3 with hsp | hsp | hsp
  · subst hsp
    refine g_iload C X27 at_41 43 rfl ?_
    refine g_if_ne C X27 at_43 60 46 (fun hc43 => absurd hc43 (by decide)) (fun hc43 => ?_)
    refine g_new C X27 (w_242 hw) (w_12 hw) (w_4 hw) e27 at_46 49 (by decide) (by decide) (fun T39 h39 b39 X39 e39 g39 E39 A39 D39 => ?_)
    have n41 : b27 ≠ b39 := Nat.ne_of_lt (Nat.lt_of_lt_of_eq f38.lt g39.symm)
    have n42 : o7 ≠ b39 := Nat.ne_of_lt (Nat.lt_of_lt_of_eq f35.lt g39.symm)
    have n43 : o8 ≠ b39 := Nat.ne_of_lt (Nat.lt_of_lt_of_eq f36.lt g39.symm)
    have f44 := f31.ext E39
    have f45 := f32.ext E39
    have f46 := f33.ext E39
    have f47 := f34.ext E39
    have f48 := f35.ext E39
    have f49 := f36.ext E39
    have f51 := f38.ext E39
    have gn_b39 : n0 ≤ b39 := Nat.le_trans Z27 (Nat.le_of_eq g39.symm)
    have Z39 := Nat.le_trans Z27 E39.1
    have hk39 := Nat.le_trans hk27 E39.1
    have H_39 := H_27.ext E39
    have R_39 := R_27.trans (CHr.ext E39 H_27)
    have f52 : OFv Z h39 b39 .null := D39 (Or.inr (w_25 hw)) (ty := (.array .byte)) (by decide)
    have f53 : OFc Z h39 b39 := D39 (Or.inr (w_27 hw)) (ty := .byte) (by decide)
    refine g_dup C X39 at_49 50 rfl ?_
    refine g_aload C X39 at_50 52 rfl rfl ?_
    refine g_callIH C X39 hS0 hk39 hEL H_39 rfl (w_243 hw) (w_244 hw) (w_4 hw) (w_245 hw) at_52 [(.ref b27)] [(.ref b39)] 1 (rm48_0 hw Z39 hEL A39 f52 f53 f51 gn_b39 (Ne.symm n41)) pd_36 e39 55 (fun u54 T54 L54 C54 X54 hQ54 hS54 A54 => ?_)
    obtain ⟨o354, kd354, rfl, Nq54, Kq54, q54_0, q54_1, q54_2, q54_3⟩ := hQ54
    have N54 := Fr.app N19 Nq54
    have f55 := Sta.keepN f44 Kq54 (allS (Exa.ns A39) all0)
    have f56 := Sta.keepN f45 Kq54 (allS (Exa.ns A39) all0)
    have f57 := Sta.keepN f46 Kq54 (allS (Exa.ns A39) all0)
    have f58 := Sta.keepN f47 Kq54 (allS (Exa.ns A39) all0)
    have f59 := f48.keep Kq54 (ninS n42 nin0)
    have f60 := f49.keep Kq54 (ninS n43 nin0)
    have Z54 := Nat.le_trans Z39 Kq54.1
    have H_54 := A54.1
    have R_54 := R_39.trans A54
    refine ret0 ?_
    refine g_astore C54 X54 at_55 57 rfl (ls' := #[iv p0, iv p1, iv p2, iv p3, rv b1, rv b27, iv 0, rv b39, uu, uu, uu, uu, uu, uu, uu, uu, uu, uu, uu, uu, uu, uu]) rfl ?_
    refine g_goto C54 X54 at_57 89 ?_
    obtain ⟨q5, e5, h5⟩ : ∃ l : List Int32, l = [] ∧ l.length ≤ 2 := ⟨_, rfl, Nat.le_of_ble_eq_true rfl⟩
    have yq5 : Arv Z T54.heap o354 kd354 .byte (Int32.ofNat q5.length) (q5.map Value.int) (.int 0) := by rw [e5]; exact q54_3
    by_cases hx : (0 : Int32) < p0
    · refine g_iloadN C54 X54 at_89 90 rfl ?_
      refine g_iloadN C54 X54 at_90 91 rfl ?_
      refine g_aload C54 X54 at_91 93 rfl rfl ?_
      refine g_callSH C54 X54 hS54 (Nat.le_refl _) hEL H_54 (w_28 hw) (w_29 hw) (w_30 hw) (w_31 hw) at_93 [(.int p0), (.int p1), (.ref b39)] [] 0 (rm6_gt hw Z54 hEL q54_0 q54_1 q54_2 yq5 f57 f58 f59 f60 f55 hcs hx h5) pd_37 rfl 96 (fun u64 T64 L64 C64 X64 hQ64 hS64 A64 => ?_)
      obtain ⟨o464, o364, kd364, rfl, Nq64, szo464, szo364, Kq64, q64_0, q64_1, q64_2, q64_3⟩ := hQ64
      have N64 := Fr.app N54 Nq64
      have f73 := Sta.keepN f55 Kq64 all0
      have f74 := Sta.keepN f56 Kq64 all0
      have f79 := q54_0.keep Kq64
      have f80 := q54_1.keep Kq64 nin0
      have f81 := q54_2.keep Kq64 nin0
      have f82 := yq5.keep Kq64 nin0
      have Z64 := Nat.le_trans Z54 Kq64.1
      have H_64 := A64.1
      have R_64 := R_54.trans A64
      refine ret1 ?_
      refine g_astore C64 X64 at_96 98 rfl (ls' := #[iv p0, iv p1, iv p2, iv p3, rv b1, rv b27, iv 0, rv b39, rv o464, uu, uu, uu, uu, uu, uu, uu, uu, uu, uu, uu, uu, uu]) rfl ?_
      obtain ⟨n1, hn1⟩ : ∃ n : Nat, p0.toInt.natAbs = n := ⟨_, rfl⟩
      obtain ⟨n2, hn2⟩ : ∃ n : Nat, p1.toInt.natAbs = n := ⟨_, rfl⟩
      obtain ⟨tx, etx⟩ : ∃ l : List Int32, l = ((((((([] : List Int32) ++ ([108, 105, 110, 101, 32] : List Int32)) ++ decI p0) ++ ([44, 32, 99, 111, 108, 117, 109, 110, 32] : List Int32)) ++ decI p1) ++ ([58, 32] : List Int32)) ++ q5) := ⟨_, rfl⟩
      have ytx : Arv Z T64.heap o364 kd364 .byte (Int32.ofNat tx.length) (tx.map Value.int) (.int 0) := by rw [etx]; exact q64_3
      have d1 := dg_pos n1
      have d2 := dg_pos n2
      refine g_aload C64 X64 at_98 100 rfl rfl ?_
      refine g_ifnonnullY C64 X64 at_100 105 ?_
      refine g_iloadN C64 X64 at_105 106 rfl ?_
      refine g_if_gt C64 X64 at_106 117 109 (fun hc106 => ?_) (fun hc106 => absurd hx hc106)
      refine g_iloadN C64 X64 at_117 118 rfl ?_
      refine g_i2l C64 X64 at_118 119 ?_
      refine g_lstore C64 X64 at_119 121 (w := p0.toInt64) rfl (ls' := #[iv p0, iv p1, iv p2, iv p3, rv b1, rv b27, iv 0, rv b39, rv o464, jv p0.toInt64, sd, uu, uu, uu, uu, uu, uu, uu, uu, uu, uu, uu]) rfl ?_
      refine g_lload C64 X64 at_121 123 rfl ?_
      refine g_callS0 C64 X64 (b_22 hw) at_123 [(.long p0.toInt64)] [] 0 (rm37 hw Z64) N64 pd_38 rfl 126 (fun T83 _ X83 N83 e83 => ?_)
      rw [len_eq (i64p (posn hx) hn1)]
      refine g_istore C64 X83 at_126 128 (w := (Int32.ofNat (dg n1))) rfl (ls' := #[iv p0, iv p1, iv p2, iv p3, rv b1, rv b27, iv 0, rv b39, rv o464, jv p0.toInt64, sd, iv (Int32.ofNat (dg n1)), uu, uu, uu, uu, uu, uu, uu, uu, uu, uu]) rfl ?_
      refine g_iloadN C64 X83 at_128 129 rfl ?_
      refine g_if_ge C64 X83 at_129 136 132 (fun hc129 => ?_) (fun hc129 => ?_)
      · refine g_iconst C64 X83 at_136 137 (v := 0) rfl ?_
        refine g_istore C64 X83 at_137 139 (w := 0) rfl (ls' := #[iv p0, iv p1, iv p2, iv p3, rv b1, rv b27, iv 0, rv b39, rv o464, jv p0.toInt64, sd, iv (Int32.ofNat (dg n1)), iv 0, uu, uu, uu, uu, uu, uu, uu, uu, uu]) rfl ?_
        refine g_iload C64 X83 at_139 141 rfl ?_
        refine g_if_eq C64 X83 at_141 150 144 (fun hc141 => ?_) (fun hc141 => absurd hc141 (by decide))
        refine g_iloadN C64 X83 at_150 151 rfl ?_
        refine g_i2l C64 X83 at_151 152 ?_
        refine g_lstore C64 X83 at_152 154 (w := p1.toInt64) rfl (ls' := #[iv p0, iv p1, iv p2, iv p3, rv b1, rv b27, iv 0, rv b39, rv o464, jv p0.toInt64, sd, iv (Int32.ofNat (dg n1)), iv 0, jv p1.toInt64, sd, uu, uu, uu, uu, uu, uu, uu]) rfl ?_
        refine g_lload C64 X83 at_154 156 rfl ?_
        refine g_callS0 C64 X83 (b_22 hw) at_156 [(.long p1.toInt64)] [] 0 (rm37 hw Z64) N83 pd_38 e83 159 (fun T84 _ X84 N84 e84 => ?_)
        rw [len_eq (i64p hc129 hn2)]
        obtain ⟨htl, h45, ht0, ht1, ht2, ht3, ht4, ht5, ht6⟩ := msg_of hx hn1 hn2 (sgn_p hc129) (sg := 0) rfl h5 (by decide) etx
        refine g_istore C64 X84 at_159 161 (w := (Int32.ofNat (dg n2))) rfl (ls' := #[iv p0, iv p1, iv p2, iv p3, rv b1, rv b27, iv 0, rv b39, rv o464, jv p0.toInt64, sd, iv (Int32.ofNat (dg n1)), iv 0, jv p1.toInt64, sd, iv (Int32.ofNat (dg n2)), uu, uu, uu, uu, uu, uu]) rfl ?_
        refine g_iload C64 X84 at_161 163 rfl ?_
        refine g_if_eq C64 X84 at_163 170 166 (fun hc163 => ?_) (fun hc163 => absurd hc163 (by decide))
        refine g_iconst C64 X84 at_170 171 (v := 0) rfl ?_
        refine g_istore C64 X84 at_171 173 (w := 0) rfl (ls' := #[iv p0, iv p1, iv p2, iv p3, rv b1, rv b27, iv 0, rv b39, rv o464, jv p0.toInt64, sd, iv (Int32.ofNat (dg n1)), iv 0, jv p1.toInt64, sd, iv (Int32.ofNat (dg n2)), iv 0, uu, uu, uu, uu, uu]) rfl ?_
        refine g_iconst C64 X84 at_173 174 (v := 5) rfl ?_
        refine g_iload C64 X84 at_174 176 rfl ?_
        refine g_iadd C64 X84 at_176 177 ?_
        rw [show ((5 : Int32) + (Int32.ofNat (dg n1))) = (Int32.ofNat (5 + dg n1)) from i_add _ _]
        refine g_istore C64 X84 at_177 179 (w := (Int32.ofNat (5 + dg n1))) rfl (ls' := #[iv p0, iv p1, iv p2, iv p3, rv b1, rv b27, iv 0, rv b39, rv o464, jv p0.toInt64, sd, iv (Int32.ofNat (dg n1)), iv 0, jv p1.toInt64, sd, iv (Int32.ofNat (dg n2)), iv 0, iv (Int32.ofNat (5 + dg n1)), uu, uu, uu, uu]) rfl ?_
        refine g_iload C64 X84 at_179 181 rfl ?_
        refine g_bipush C64 X84 at_181 183 (v := 9) rfl ?_
        refine g_iadd C64 X84 at_183 184 ?_
        rw [show ((Int32.ofNat (5 + dg n1)) + (9 : Int32)) = (Int32.ofNat (5 + dg n1 + 9)) from i_add _ _]
        refine g_istore C64 X84 at_184 186 (w := (Int32.ofNat (5 + dg n1 + 9))) rfl (ls' := #[iv p0, iv p1, iv p2, iv p3, rv b1, rv b27, iv 0, rv b39, rv o464, jv p0.toInt64, sd, iv (Int32.ofNat (dg n1)), iv 0, jv p1.toInt64, sd, iv (Int32.ofNat (dg n2)), iv 0, iv (Int32.ofNat (5 + dg n1)), iv (Int32.ofNat (5 + dg n1 + 9)), uu, uu, uu]) rfl ?_
        refine g_iload C64 X84 at_186 188 rfl ?_
        refine g_iload C64 X84 at_188 190 rfl ?_
        refine g_iadd C64 X84 at_190 191 ?_
        rw [show ((Int32.ofNat (5 + dg n1 + 9)) + (0 : Int32)) = (Int32.ofNat (5 + dg n1 + 9 + 0)) from i_add _ _]
        refine g_istore C64 X84 at_191 193 (w := (Int32.ofNat (5 + dg n1 + 9 + 0))) rfl (ls' := #[iv p0, iv p1, iv p2, iv p3, rv b1, rv b27, iv 0, rv b39, rv o464, jv p0.toInt64, sd, iv (Int32.ofNat (dg n1)), iv 0, jv p1.toInt64, sd, iv (Int32.ofNat (dg n2)), iv 0, iv (Int32.ofNat (5 + dg n1)), iv (Int32.ofNat (5 + dg n1 + 9)), iv (Int32.ofNat (5 + dg n1 + 9 + 0)), uu, uu]) rfl ?_
        refine g_iload C64 X84 at_193 195 rfl ?_
        refine g_iload C64 X84 at_195 197 rfl ?_
        refine g_iadd C64 X84 at_197 198 ?_
        rw [show ((Int32.ofNat (5 + dg n1 + 9 + 0)) + (Int32.ofNat (dg n2))) = (Int32.ofNat (5 + dg n1 + 9 + 0 + dg n2)) from i_add _ _]
        refine g_istore C64 X84 at_198 200 (w := (Int32.ofNat (5 + dg n1 + 9 + 0 + dg n2))) rfl (ls' := #[iv p0, iv p1, iv p2, iv p3, rv b1, rv b27, iv 0, rv b39, rv o464, jv p0.toInt64, sd, iv (Int32.ofNat (dg n1)), iv 0, jv p1.toInt64, sd, iv (Int32.ofNat (dg n2)), iv 0, iv (Int32.ofNat (5 + dg n1)), iv (Int32.ofNat (5 + dg n1 + 9)), iv (Int32.ofNat (5 + dg n1 + 9 + 0)), iv (Int32.ofNat (5 + dg n1 + 9 + 0 + dg n2)), uu]) rfl ?_
        refine g_iload C64 X84 at_200 202 rfl ?_
        refine g_iconst C64 X84 at_202 203 (v := 2) rfl ?_
        refine g_iadd C64 X84 at_203 204 ?_
        rw [show ((Int32.ofNat (5 + dg n1 + 9 + 0 + dg n2)) + (2 : Int32)) = (Int32.ofNat (5 + dg n1 + 9 + 0 + dg n2 + 2)) from i_add _ _]
        refine g_istore C64 X84 at_204 206 (w := (Int32.ofNat (5 + dg n1 + 9 + 0 + dg n2 + 2))) rfl (ls' := #[iv p0, iv p1, iv p2, iv p3, rv b1, rv b27, iv 0, rv b39, rv o464, jv p0.toInt64, sd, iv (Int32.ofNat (dg n1)), iv 0, jv p1.toInt64, sd, iv (Int32.ofNat (dg n2)), iv 0, iv (Int32.ofNat (5 + dg n1)), iv (Int32.ofNat (5 + dg n1 + 9)), iv (Int32.ofNat (5 + dg n1 + 9 + 0)), iv (Int32.ofNat (5 + dg n1 + 9 + 0 + dg n2)), iv (Int32.ofNat (5 + dg n1 + 9 + 0 + dg n2 + 2))]) rfl ?_
        refine g_aload C64 X84 at_206 208 rfl rfl ?_
        refine g_callV0 C64 X84 (b_18 hw) q64_0 at_208 [] [] 0 (rm12_s hw Z64 q64_0 q64_1 q64_2 ytx f73 hcs) N84 pd_8 e84 211 (fun T85 _ X85 N85 e85 => ?_)
        refine g_iload C64 X85 at_211 213 rfl ?_
        refine g_aload C64 X85 at_213 215 rfl rfl ?_
        refine g_callV0 C64 X85 (b_18 hw) f79 at_215 [] [(.int (Int32.ofNat (5 + dg n1 + 9 + 0 + dg n2 + 2))), (.int (Int32.ofNat tx.length))] 2 (rm12_s hw Z64 f79 f80 f81 f82 f73 hcs) N85 pd_8 e85 218 (fun T86 _ X86 N86 e86 => ?_)
        refine g_iadd C64 X86 at_218 219 ?_
        refine g_icmp_eq C64 X86 at_219 224 222 (fun hc219 => ?_) (fun hc219 => absurd (by rw [i_add, ← htl]) hc219)
        refine g_aload C64 X86 at_224 226 rfl rfl ?_
        refine g_iconst C64 X86 at_226 227 (v := 0) rfl ?_
        refine g_ldcCH C64 X86 (n := 20) (z := (5 : Int32)) (vs := [(.int 108), (.int 105), (.int 110), (.int 101), (.int 32)]) (hw _ (List.mem_of_getElem? (i := 195) rfl)) (strAtoms hw) e86 hS64 (Nat.le_refl _) hEL (by decide) H_64 ⟨by decide, rfl⟩ (by decide) rfl at_227 229 (by decide) (by decide) (by decide) (by decide) (fun b87 T87 h87 k87 bb87 ki87 C87 X87 e87 E87 hS87 hk87 fe87 fc87 fv87 fa87 A87 sn87 => ?_)
        have f88 := f73.ext E87
        have f89 := f74.ext E87
        have f94 := f79.ext E87
        have f95 := f80.ext E87
        have f96 := f81.ext E87
        have f97 := f82.ext E87
        have f98 := q64_0.ext E87
        have f99 := q64_1.ext E87
        have f100 := q64_2.ext E87
        have f101 := ytx.ext E87
        have H_87 := A87.1
        have R_87 := R_64.trans A87
        have Z87 := Nat.le_trans Z64 E87.1
        have f102 : Arv Z h87 bb87 ki87 .byte (Int32.ofNat ([108, 105, 110, 101, 32] : List Int32).length) (([108, 105, 110, 101, 32] : List Int32).map Value.int) (.int 0) := fa87
        refine g_callS0 C87 X87 (b_23 hw) at_229 [(.ref o464), (.int 0), (.ref b87)] [] 0 (rm38 hw Z87 f98 f99 f100 f101 fe87 fv87 fc87 f102 f88 f89 hcs hwf (show Int32.ofNat 0 = _ from rfl) ht0 (show 0 + 5 ≤ tx.length from by omega) h45) N86 pd_39 e87 232 (fun T103 _ X103 N103 e103 => ?_)
        refine g_if_eq C87 X103 at_232 319 235 (fun hc232 => absurd hc232 (by decide)) (fun hc232 => ?_)
        refine g_aload C87 X103 at_235 237 rfl rfl ?_
        refine g_iconst C87 X103 at_237 238 (v := 5) rfl ?_
        refine g_lload C87 X103 at_238 240 rfl ?_
        refine g_iload C87 X103 at_240 242 rfl ?_
        refine g_callS C87 X103 (w_223 hw) (w_224 hw) (w_190 hw) (w_225 hw) at_242 [(.ref o464), (.int 5), (.long p0.toInt64), (.int (Int32.ofNat (dg n1)))] [] 0 (rm45 hw Z87 f98 f99 f100 f101 f88 f89 hcs hwf (show Int32.ofNat 5 = _ from rfl) (i64p (posn hx) hn1) rfl (hn1 ▸ natAbs_le _) ht1 (by omega) h45) pd_40 e103 245 (fun u104 T104 L104 X104 hQ104 => ?_)
        obtain ⟨rfl, Nq104, Kq104⟩ := hQ104
        have N104 := Fr.app N103 Nq104
        have f105 := Sta.keepN f88 Kq104 all0
        have f106 := Sta.keepN f89 Kq104 all0
        have f111 := f94.keep Kq104
        have f112 := f95.keep Kq104 nin0
        have f113 := f96.keep Kq104 nin0
        have f114 := f97.keep Kq104 nin0
        have f115 := f98.keep Kq104
        have f116 := f99.keep Kq104 nin0
        have f117 := f100.keep Kq104 nin0
        have f118 := f101.keep Kq104 nin0
        have Z104 := Nat.le_trans Z87 Kq104.1
        have hk104 := Nat.le_trans hk87 Kq104.1
        have H_104 := CHv.keep Kq104 all0 H_87
        have R_104 := R_87.trans (CHr.keep Kq104 all0 H_87)
        refine ret1 ?_
        refine g_if_eq C87 X104 at_245 319 248 (fun hc245 => absurd hc245 (by decide)) (fun hc245 => ?_)
        refine g_aload C87 X104 at_248 250 rfl rfl ?_
        refine g_iload C87 X104 at_250 252 rfl ?_
        refine g_ldcCH C87 X104 (n := 36) (z := (9 : Int32)) (vs := [(.int 44), (.int 32), (.int 99), (.int 111), (.int 108), (.int 117), (.int 109), (.int 110), (.int 32)]) (hw _ (List.mem_of_getElem? (i := 240) rfl)) (strAtoms hw) rfl hS87 hk104 hEL (by decide) H_104 ⟨by decide, rfl⟩ (by decide) rfl at_252 254 (by decide) (by decide) (by decide) (by decide) (fun b123 T123 h123 k123 bb123 ki123 C123 X123 e123 E123 hS123 hk123 fe123 fc123 fv123 fa123 A123 sn123 => ?_)
        have f124 := f105.ext E123
        have f125 := f106.ext E123
        have f130 := f111.ext E123
        have f131 := f112.ext E123
        have f132 := f113.ext E123
        have f133 := f114.ext E123
        have f134 := f115.ext E123
        have f135 := f116.ext E123
        have f136 := f117.ext E123
        have f137 := f118.ext E123
        have H_123 := A123.1
        have R_123 := R_104.trans A123
        have Z123 := Nat.le_trans Z104 E123.1
        have f142 : Arv Z h123 bb123 ki123 .byte (Int32.ofNat ([44, 32, 99, 111, 108, 117, 109, 110, 32] : List Int32).length) (([44, 32, 99, 111, 108, 117, 109, 110, 32] : List Int32).map Value.int) (.int 0) := fa123
        refine g_callS0 C123 X123 (b_23 hw) at_254 [(.ref o464), (.int (Int32.ofNat (5 + dg n1))), (.ref b123)] [] 0 (rm38 hw Z123 f134 f135 f136 f137 fe123 fv123 fc123 f142 f124 f125 hcs hwf (show Int32.ofNat (5 + dg n1) = _ from rfl) ht2 (show (5 + dg n1) + 9 ≤ tx.length from by omega) h45) N104 pd_39 e123 257 (fun T143 _ X143 N143 e143 => ?_)
        refine g_if_eq C123 X143 at_257 319 260 (fun hc257 => absurd hc257 (by decide)) (fun hc257 => ?_)
        refine g_iload C123 X143 at_260 262 rfl ?_
        refine g_if_eq C123 X143 at_262 277 265 (fun hc262 => ?_) (fun hc262 => absurd hc262 (by decide))
        refine g_aload C123 X143 at_277 279 rfl rfl ?_
        refine g_iload C123 X143 at_279 281 rfl ?_
        refine g_lload C123 X143 at_281 283 rfl ?_
        refine g_iload C123 X143 at_283 285 rfl ?_
        refine g_callS C123 X143 (w_223 hw) (w_224 hw) (w_190 hw) (w_225 hw) at_285 [(.ref o464), (.int (Int32.ofNat (5 + dg n1 + 9 + 0))), (.long p1.toInt64), (.int (Int32.ofNat (dg n2)))] [] 0 (rm45 hw Z123 f134 f135 f136 f137 f124 f125 hcs hwf (show Int32.ofNat (5 + dg n1 + 9 + 0) = _ from rfl) (i64p hc129 hn2) rfl (hn2 ▸ natAbs_le _) ht4 (by omega) h45) pd_40 e143 288 (fun u144 T144 L144 X144 hQ144 => ?_)
        obtain ⟨rfl, Nq144, Kq144⟩ := hQ144
        have N144 := Fr.app N143 Nq144
        have f145 := Sta.keepN f124 Kq144 all0
        have f146 := Sta.keepN f125 Kq144 all0
        have f151 := f130.keep Kq144
        have f152 := f131.keep Kq144 nin0
        have f153 := f132.keep Kq144 nin0
        have f154 := f133.keep Kq144 nin0
        have f155 := f134.keep Kq144
        have f156 := f135.keep Kq144 nin0
        have f157 := f136.keep Kq144 nin0
        have f158 := f137.keep Kq144 nin0
        have Z144 := Nat.le_trans Z123 Kq144.1
        have hk144 := Nat.le_trans hk123 Kq144.1
        have H_144 := CHv.keep Kq144 all0 H_123
        have R_144 := R_123.trans (CHr.keep Kq144 all0 H_123)
        refine ret1 ?_
        refine g_if_eq C123 X144 at_288 319 291 (fun hc288 => absurd hc288 (by decide)) (fun hc288 => ?_)
        refine g_aload C123 X144 at_291 293 rfl rfl ?_
        refine g_iload C123 X144 at_293 295 rfl ?_
        refine g_ldcCH C123 X144 (n := 8) (z := (2 : Int32)) (vs := [(.int 58), (.int 32)]) (hw _ (List.mem_of_getElem? (i := 241) rfl)) (strAtoms hw) rfl hS123 hk144 hEL (by decide) H_144 ⟨by decide, rfl⟩ (by decide) rfl at_295 297 (by decide) (by decide) (by decide) (by decide) (fun b167 T167 h167 k167 bb167 ki167 C167 X167 e167 E167 hS167 hk167 fe167 fc167 fv167 fa167 A167 sn167 => ?_)
        have f168 := f145.ext E167
        have f169 := f146.ext E167
        have f174 := f151.ext E167
        have f175 := f152.ext E167
        have f176 := f153.ext E167
        have f177 := f154.ext E167
        have f178 := f155.ext E167
        have f179 := f156.ext E167
        have f180 := f157.ext E167
        have f181 := f158.ext E167
        have H_167 := A167.1
        have R_167 := R_144.trans A167
        have Z167 := Nat.le_trans Z144 E167.1
        have f190 : Arv Z h167 bb167 ki167 .byte (Int32.ofNat ([58, 32] : List Int32).length) (([58, 32] : List Int32).map Value.int) (.int 0) := fa167
        refine g_callS0 C167 X167 (b_23 hw) at_297 [(.ref o464), (.int (Int32.ofNat (5 + dg n1 + 9 + 0 + dg n2))), (.ref b167)] [] 0 (rm38 hw Z167 f178 f179 f180 f181 fe167 fv167 fc167 f190 f168 f169 hcs hwf (show Int32.ofNat (5 + dg n1 + 9 + 0 + dg n2) = _ from rfl) ht5 (show (5 + dg n1 + 9 + 0 + dg n2) + 2 ≤ tx.length from by omega) h45) N144 pd_39 e167 300 (fun T191 _ X191 N191 e191 => ?_)
        refine g_if_eq C167 X191 at_300 319 303 (fun hc300 => absurd hc300 (by decide)) (fun hc300 => ?_)
        refine g_aload C167 X191 at_303 305 rfl rfl ?_
        refine g_iload C167 X191 at_305 307 rfl ?_
        refine g_aload C167 X191 at_307 309 rfl rfl ?_
        refine g_callS0 C167 X191 (b_23 hw) at_309 [(.ref o464), (.int (Int32.ofNat (5 + dg n1 + 9 + 0 + dg n2 + 2))), (.ref b39)] [] 0 (rm38 hw Z167 f178 f179 f180 f181 f174 f175 f176 f177 f168 f169 hcs hwf rfl ht6 (by omega) h45) N191 pd_39 e191 312 (fun T192 _ X192 N192 e192 => ?_)
        refine g_if_eq C167 X192 at_312 319 315 (fun hc312 => absurd hc312 (by decide)) (fun hc312 => ?_)
        refine g_iconst C167 X192 at_315 316 (v := 1) rfl ?_
        refine g_goto C167 X192 at_316 320 ?_
        exact g_retNH C167 X192 K hS167 hk167 hEL H_167 R_167 (by simp) at_320 (by decide) (by decide) e192 ⟨rfl, N192⟩
      · refine g_iconst C64 X83 at_132 133 (v := 1) rfl ?_
        refine g_goto C64 X83 at_133 137 ?_
        refine g_istore C64 X83 at_137 139 (w := 1) rfl (ls' := #[iv p0, iv p1, iv p2, iv p3, rv b1, rv b27, iv 0, rv b39, rv o464, jv p0.toInt64, sd, iv (Int32.ofNat (dg n1)), iv 1, uu, uu, uu, uu, uu, uu, uu, uu, uu]) rfl ?_
        refine g_iload C64 X83 at_139 141 rfl ?_
        refine g_if_eq C64 X83 at_141 150 144 (fun hc141 => absurd hc141 (by decide)) (fun hc141 => ?_)
        refine g_iloadN C64 X83 at_144 145 rfl ?_
        refine g_i2l C64 X83 at_145 146 ?_
        refine g_lneg C64 X83 at_146 147 ?_
        refine g_goto C64 X83 at_147 152 ?_
        refine g_lstore C64 X83 at_152 154 (w := (-p1.toInt64)) rfl (ls' := #[iv p0, iv p1, iv p2, iv p3, rv b1, rv b27, iv 0, rv b39, rv o464, jv p0.toInt64, sd, iv (Int32.ofNat (dg n1)), iv 1, jv (-p1.toInt64), sd, uu, uu, uu, uu, uu, uu, uu]) rfl ?_
        refine g_lload C64 X83 at_154 156 rfl ?_
        refine g_callS0 C64 X83 (b_22 hw) at_156 [(.long (-p1.toInt64))] [] 0 (rm37 hw Z64) N83 pd_38 e83 159 (fun T193 _ X193 N193 e193 => ?_)
        rw [len_eq (i64n hc129 hn2)]
        obtain ⟨htl, h45, ht0, ht1, ht2, ht3, ht4, ht5, ht6⟩ := msg_of hx hn1 hn2 (sgn_n hc129) (sg := 1) rfl h5 (by decide) etx
        refine g_istore C64 X193 at_159 161 (w := (Int32.ofNat (dg n2))) rfl (ls' := #[iv p0, iv p1, iv p2, iv p3, rv b1, rv b27, iv 0, rv b39, rv o464, jv p0.toInt64, sd, iv (Int32.ofNat (dg n1)), iv 1, jv (-p1.toInt64), sd, iv (Int32.ofNat (dg n2)), uu, uu, uu, uu, uu, uu]) rfl ?_
        refine g_iload C64 X193 at_161 163 rfl ?_
        refine g_if_eq C64 X193 at_163 170 166 (fun hc163 => absurd hc163 (by decide)) (fun hc163 => ?_)
        refine g_iconst C64 X193 at_166 167 (v := 1) rfl ?_
        refine g_goto C64 X193 at_167 171 ?_
        refine g_istore C64 X193 at_171 173 (w := 1) rfl (ls' := #[iv p0, iv p1, iv p2, iv p3, rv b1, rv b27, iv 0, rv b39, rv o464, jv p0.toInt64, sd, iv (Int32.ofNat (dg n1)), iv 1, jv (-p1.toInt64), sd, iv (Int32.ofNat (dg n2)), iv 1, uu, uu, uu, uu, uu]) rfl ?_
        refine g_iconst C64 X193 at_173 174 (v := 5) rfl ?_
        refine g_iload C64 X193 at_174 176 rfl ?_
        refine g_iadd C64 X193 at_176 177 ?_
        rw [show ((5 : Int32) + (Int32.ofNat (dg n1))) = (Int32.ofNat (5 + dg n1)) from i_add _ _]
        refine g_istore C64 X193 at_177 179 (w := (Int32.ofNat (5 + dg n1))) rfl (ls' := #[iv p0, iv p1, iv p2, iv p3, rv b1, rv b27, iv 0, rv b39, rv o464, jv p0.toInt64, sd, iv (Int32.ofNat (dg n1)), iv 1, jv (-p1.toInt64), sd, iv (Int32.ofNat (dg n2)), iv 1, iv (Int32.ofNat (5 + dg n1)), uu, uu, uu, uu]) rfl ?_
        refine g_iload C64 X193 at_179 181 rfl ?_
        refine g_bipush C64 X193 at_181 183 (v := 9) rfl ?_
        refine g_iadd C64 X193 at_183 184 ?_
        rw [show ((Int32.ofNat (5 + dg n1)) + (9 : Int32)) = (Int32.ofNat (5 + dg n1 + 9)) from i_add _ _]
        refine g_istore C64 X193 at_184 186 (w := (Int32.ofNat (5 + dg n1 + 9))) rfl (ls' := #[iv p0, iv p1, iv p2, iv p3, rv b1, rv b27, iv 0, rv b39, rv o464, jv p0.toInt64, sd, iv (Int32.ofNat (dg n1)), iv 1, jv (-p1.toInt64), sd, iv (Int32.ofNat (dg n2)), iv 1, iv (Int32.ofNat (5 + dg n1)), iv (Int32.ofNat (5 + dg n1 + 9)), uu, uu, uu]) rfl ?_
        refine g_iload C64 X193 at_186 188 rfl ?_
        refine g_iload C64 X193 at_188 190 rfl ?_
        refine g_iadd C64 X193 at_190 191 ?_
        rw [show ((Int32.ofNat (5 + dg n1 + 9)) + (1 : Int32)) = (Int32.ofNat (5 + dg n1 + 9 + 1)) from i_add _ _]
        refine g_istore C64 X193 at_191 193 (w := (Int32.ofNat (5 + dg n1 + 9 + 1))) rfl (ls' := #[iv p0, iv p1, iv p2, iv p3, rv b1, rv b27, iv 0, rv b39, rv o464, jv p0.toInt64, sd, iv (Int32.ofNat (dg n1)), iv 1, jv (-p1.toInt64), sd, iv (Int32.ofNat (dg n2)), iv 1, iv (Int32.ofNat (5 + dg n1)), iv (Int32.ofNat (5 + dg n1 + 9)), iv (Int32.ofNat (5 + dg n1 + 9 + 1)), uu, uu]) rfl ?_
        refine g_iload C64 X193 at_193 195 rfl ?_
        refine g_iload C64 X193 at_195 197 rfl ?_
        refine g_iadd C64 X193 at_197 198 ?_
        rw [show ((Int32.ofNat (5 + dg n1 + 9 + 1)) + (Int32.ofNat (dg n2))) = (Int32.ofNat (5 + dg n1 + 9 + 1 + dg n2)) from i_add _ _]
        refine g_istore C64 X193 at_198 200 (w := (Int32.ofNat (5 + dg n1 + 9 + 1 + dg n2))) rfl (ls' := #[iv p0, iv p1, iv p2, iv p3, rv b1, rv b27, iv 0, rv b39, rv o464, jv p0.toInt64, sd, iv (Int32.ofNat (dg n1)), iv 1, jv (-p1.toInt64), sd, iv (Int32.ofNat (dg n2)), iv 1, iv (Int32.ofNat (5 + dg n1)), iv (Int32.ofNat (5 + dg n1 + 9)), iv (Int32.ofNat (5 + dg n1 + 9 + 1)), iv (Int32.ofNat (5 + dg n1 + 9 + 1 + dg n2)), uu]) rfl ?_
        refine g_iload C64 X193 at_200 202 rfl ?_
        refine g_iconst C64 X193 at_202 203 (v := 2) rfl ?_
        refine g_iadd C64 X193 at_203 204 ?_
        rw [show ((Int32.ofNat (5 + dg n1 + 9 + 1 + dg n2)) + (2 : Int32)) = (Int32.ofNat (5 + dg n1 + 9 + 1 + dg n2 + 2)) from i_add _ _]
        refine g_istore C64 X193 at_204 206 (w := (Int32.ofNat (5 + dg n1 + 9 + 1 + dg n2 + 2))) rfl (ls' := #[iv p0, iv p1, iv p2, iv p3, rv b1, rv b27, iv 0, rv b39, rv o464, jv p0.toInt64, sd, iv (Int32.ofNat (dg n1)), iv 1, jv (-p1.toInt64), sd, iv (Int32.ofNat (dg n2)), iv 1, iv (Int32.ofNat (5 + dg n1)), iv (Int32.ofNat (5 + dg n1 + 9)), iv (Int32.ofNat (5 + dg n1 + 9 + 1)), iv (Int32.ofNat (5 + dg n1 + 9 + 1 + dg n2)), iv (Int32.ofNat (5 + dg n1 + 9 + 1 + dg n2 + 2))]) rfl ?_
        refine g_aload C64 X193 at_206 208 rfl rfl ?_
        refine g_callV0 C64 X193 (b_18 hw) q64_0 at_208 [] [] 0 (rm12_s hw Z64 q64_0 q64_1 q64_2 ytx f73 hcs) N193 pd_8 e193 211 (fun T194 _ X194 N194 e194 => ?_)
        refine g_iload C64 X194 at_211 213 rfl ?_
        refine g_aload C64 X194 at_213 215 rfl rfl ?_
        refine g_callV0 C64 X194 (b_18 hw) f79 at_215 [] [(.int (Int32.ofNat (5 + dg n1 + 9 + 1 + dg n2 + 2))), (.int (Int32.ofNat tx.length))] 2 (rm12_s hw Z64 f79 f80 f81 f82 f73 hcs) N194 pd_8 e194 218 (fun T195 _ X195 N195 e195 => ?_)
        refine g_iadd C64 X195 at_218 219 ?_
        refine g_icmp_eq C64 X195 at_219 224 222 (fun hc219 => ?_) (fun hc219 => absurd (by rw [i_add, ← htl]) hc219)
        refine g_aload C64 X195 at_224 226 rfl rfl ?_
        refine g_iconst C64 X195 at_226 227 (v := 0) rfl ?_
        refine g_ldcCH C64 X195 (n := 20) (z := (5 : Int32)) (vs := [(.int 108), (.int 105), (.int 110), (.int 101), (.int 32)]) (hw _ (List.mem_of_getElem? (i := 195) rfl)) (strAtoms hw) e195 hS64 (Nat.le_refl _) hEL (by decide) H_64 ⟨by decide, rfl⟩ (by decide) rfl at_227 229 (by decide) (by decide) (by decide) (by decide) (fun b196 T196 h196 k196 bb196 ki196 C196 X196 e196 E196 hS196 hk196 fe196 fc196 fv196 fa196 A196 sn196 => ?_)
        have f197 := f73.ext E196
        have f198 := f74.ext E196
        have f203 := f79.ext E196
        have f204 := f80.ext E196
        have f205 := f81.ext E196
        have f206 := f82.ext E196
        have f207 := q64_0.ext E196
        have f208 := q64_1.ext E196
        have f209 := q64_2.ext E196
        have f210 := ytx.ext E196
        have H_196 := A196.1
        have R_196 := R_64.trans A196
        have Z196 := Nat.le_trans Z64 E196.1
        have f211 : Arv Z h196 bb196 ki196 .byte (Int32.ofNat ([108, 105, 110, 101, 32] : List Int32).length) (([108, 105, 110, 101, 32] : List Int32).map Value.int) (.int 0) := fa196
        refine g_callS0 C196 X196 (b_23 hw) at_229 [(.ref o464), (.int 0), (.ref b196)] [] 0 (rm38 hw Z196 f207 f208 f209 f210 fe196 fv196 fc196 f211 f197 f198 hcs hwf (show Int32.ofNat 0 = _ from rfl) ht0 (show 0 + 5 ≤ tx.length from by omega) h45) N195 pd_39 e196 232 (fun T212 _ X212 N212 e212 => ?_)
        refine g_if_eq C196 X212 at_232 319 235 (fun hc232 => absurd hc232 (by decide)) (fun hc232 => ?_)
        refine g_aload C196 X212 at_235 237 rfl rfl ?_
        refine g_iconst C196 X212 at_237 238 (v := 5) rfl ?_
        refine g_lload C196 X212 at_238 240 rfl ?_
        refine g_iload C196 X212 at_240 242 rfl ?_
        refine g_callS C196 X212 (w_223 hw) (w_224 hw) (w_190 hw) (w_225 hw) at_242 [(.ref o464), (.int 5), (.long p0.toInt64), (.int (Int32.ofNat (dg n1)))] [] 0 (rm45 hw Z196 f207 f208 f209 f210 f197 f198 hcs hwf (show Int32.ofNat 5 = _ from rfl) (i64p (posn hx) hn1) rfl (hn1 ▸ natAbs_le _) ht1 (by omega) h45) pd_40 e212 245 (fun u213 T213 L213 X213 hQ213 => ?_)
        obtain ⟨rfl, Nq213, Kq213⟩ := hQ213
        have N213 := Fr.app N212 Nq213
        have f214 := Sta.keepN f197 Kq213 all0
        have f215 := Sta.keepN f198 Kq213 all0
        have f220 := f203.keep Kq213
        have f221 := f204.keep Kq213 nin0
        have f222 := f205.keep Kq213 nin0
        have f223 := f206.keep Kq213 nin0
        have f224 := f207.keep Kq213
        have f225 := f208.keep Kq213 nin0
        have f226 := f209.keep Kq213 nin0
        have f227 := f210.keep Kq213 nin0
        have Z213 := Nat.le_trans Z196 Kq213.1
        have hk213 := Nat.le_trans hk196 Kq213.1
        have H_213 := CHv.keep Kq213 all0 H_196
        have R_213 := R_196.trans (CHr.keep Kq213 all0 H_196)
        refine ret1 ?_
        refine g_if_eq C196 X213 at_245 319 248 (fun hc245 => absurd hc245 (by decide)) (fun hc245 => ?_)
        refine g_aload C196 X213 at_248 250 rfl rfl ?_
        refine g_iload C196 X213 at_250 252 rfl ?_
        refine g_ldcCH C196 X213 (n := 36) (z := (9 : Int32)) (vs := [(.int 44), (.int 32), (.int 99), (.int 111), (.int 108), (.int 117), (.int 109), (.int 110), (.int 32)]) (hw _ (List.mem_of_getElem? (i := 240) rfl)) (strAtoms hw) rfl hS196 hk213 hEL (by decide) H_213 ⟨by decide, rfl⟩ (by decide) rfl at_252 254 (by decide) (by decide) (by decide) (by decide) (fun b232 T232 h232 k232 bb232 ki232 C232 X232 e232 E232 hS232 hk232 fe232 fc232 fv232 fa232 A232 sn232 => ?_)
        have f233 := f214.ext E232
        have f234 := f215.ext E232
        have f239 := f220.ext E232
        have f240 := f221.ext E232
        have f241 := f222.ext E232
        have f242 := f223.ext E232
        have f243 := f224.ext E232
        have f244 := f225.ext E232
        have f245 := f226.ext E232
        have f246 := f227.ext E232
        have H_232 := A232.1
        have R_232 := R_213.trans A232
        have Z232 := Nat.le_trans Z213 E232.1
        have f251 : Arv Z h232 bb232 ki232 .byte (Int32.ofNat ([44, 32, 99, 111, 108, 117, 109, 110, 32] : List Int32).length) (([44, 32, 99, 111, 108, 117, 109, 110, 32] : List Int32).map Value.int) (.int 0) := fa232
        refine g_callS0 C232 X232 (b_23 hw) at_254 [(.ref o464), (.int (Int32.ofNat (5 + dg n1))), (.ref b232)] [] 0 (rm38 hw Z232 f243 f244 f245 f246 fe232 fv232 fc232 f251 f233 f234 hcs hwf (show Int32.ofNat (5 + dg n1) = _ from rfl) ht2 (show (5 + dg n1) + 9 ≤ tx.length from by omega) h45) N213 pd_39 e232 257 (fun T252 _ X252 N252 e252 => ?_)
        refine g_if_eq C232 X252 at_257 319 260 (fun hc257 => absurd hc257 (by decide)) (fun hc257 => ?_)
        refine g_iload C232 X252 at_260 262 rfl ?_
        refine g_if_eq C232 X252 at_262 277 265 (fun hc262 => absurd hc262 (by decide)) (fun hc262 => ?_)
        refine g_aload C232 X252 at_265 267 rfl rfl ?_
        refine g_iload C232 X252 at_267 269 rfl ?_
        refine g_callV0 C232 X252 (b_17 hw) f243 at_269 [(.int (Int32.ofNat (5 + dg n1 + 9)))] [] 0 (rm40_s hw Z232 f243 f244 f245 f246 f233 f234 hcs hwf rfl (by omega) (by omega)) N252 pd_26 e252 272 (fun T253 _ X253 N253 e253 => ?_)
        refine g_bipush C232 X253 at_272 274 (v := 45) rfl ?_
        refine g_icmp_ne C232 X253 at_274 319 277 (fun hc274 => absurd (msg45 (ht3 0 (by decide))) hc274) (fun hc274 => ?_)
        refine g_aload C232 X253 at_277 279 rfl rfl ?_
        refine g_iload C232 X253 at_279 281 rfl ?_
        refine g_lload C232 X253 at_281 283 rfl ?_
        refine g_iload C232 X253 at_283 285 rfl ?_
        refine g_callS C232 X253 (w_223 hw) (w_224 hw) (w_190 hw) (w_225 hw) at_285 [(.ref o464), (.int (Int32.ofNat (5 + dg n1 + 9 + 1))), (.long (-p1.toInt64)), (.int (Int32.ofNat (dg n2)))] [] 0 (rm45 hw Z232 f243 f244 f245 f246 f233 f234 hcs hwf (show Int32.ofNat (5 + dg n1 + 9 + 1) = _ from rfl) (i64n hc129 hn2) rfl (hn2 ▸ natAbs_le _) ht4 (by omega) h45) pd_40 e253 288 (fun u254 T254 L254 X254 hQ254 => ?_)
        obtain ⟨rfl, Nq254, Kq254⟩ := hQ254
        have N254 := Fr.app N253 Nq254
        have f255 := Sta.keepN f233 Kq254 all0
        have f256 := Sta.keepN f234 Kq254 all0
        have f261 := f239.keep Kq254
        have f262 := f240.keep Kq254 nin0
        have f263 := f241.keep Kq254 nin0
        have f264 := f242.keep Kq254 nin0
        have f265 := f243.keep Kq254
        have f266 := f244.keep Kq254 nin0
        have f267 := f245.keep Kq254 nin0
        have f268 := f246.keep Kq254 nin0
        have Z254 := Nat.le_trans Z232 Kq254.1
        have hk254 := Nat.le_trans hk232 Kq254.1
        have H_254 := CHv.keep Kq254 all0 H_232
        have R_254 := R_232.trans (CHr.keep Kq254 all0 H_232)
        refine ret1 ?_
        refine g_if_eq C232 X254 at_288 319 291 (fun hc288 => absurd hc288 (by decide)) (fun hc288 => ?_)
        refine g_aload C232 X254 at_291 293 rfl rfl ?_
        refine g_iload C232 X254 at_293 295 rfl ?_
        refine g_ldcCH C232 X254 (n := 8) (z := (2 : Int32)) (vs := [(.int 58), (.int 32)]) (hw _ (List.mem_of_getElem? (i := 241) rfl)) (strAtoms hw) rfl hS232 hk254 hEL (by decide) H_254 ⟨by decide, rfl⟩ (by decide) rfl at_295 297 (by decide) (by decide) (by decide) (by decide) (fun b277 T277 h277 k277 bb277 ki277 C277 X277 e277 E277 hS277 hk277 fe277 fc277 fv277 fa277 A277 sn277 => ?_)
        have f278 := f255.ext E277
        have f279 := f256.ext E277
        have f284 := f261.ext E277
        have f285 := f262.ext E277
        have f286 := f263.ext E277
        have f287 := f264.ext E277
        have f288 := f265.ext E277
        have f289 := f266.ext E277
        have f290 := f267.ext E277
        have f291 := f268.ext E277
        have H_277 := A277.1
        have R_277 := R_254.trans A277
        have Z277 := Nat.le_trans Z254 E277.1
        have f300 : Arv Z h277 bb277 ki277 .byte (Int32.ofNat ([58, 32] : List Int32).length) (([58, 32] : List Int32).map Value.int) (.int 0) := fa277
        refine g_callS0 C277 X277 (b_23 hw) at_297 [(.ref o464), (.int (Int32.ofNat (5 + dg n1 + 9 + 1 + dg n2))), (.ref b277)] [] 0 (rm38 hw Z277 f288 f289 f290 f291 fe277 fv277 fc277 f300 f278 f279 hcs hwf (show Int32.ofNat (5 + dg n1 + 9 + 1 + dg n2) = _ from rfl) ht5 (show (5 + dg n1 + 9 + 1 + dg n2) + 2 ≤ tx.length from by omega) h45) N254 pd_39 e277 300 (fun T301 _ X301 N301 e301 => ?_)
        refine g_if_eq C277 X301 at_300 319 303 (fun hc300 => absurd hc300 (by decide)) (fun hc300 => ?_)
        refine g_aload C277 X301 at_303 305 rfl rfl ?_
        refine g_iload C277 X301 at_305 307 rfl ?_
        refine g_aload C277 X301 at_307 309 rfl rfl ?_
        refine g_callS0 C277 X301 (b_23 hw) at_309 [(.ref o464), (.int (Int32.ofNat (5 + dg n1 + 9 + 1 + dg n2 + 2))), (.ref b39)] [] 0 (rm38 hw Z277 f288 f289 f290 f291 f284 f285 f286 f287 f278 f279 hcs hwf rfl ht6 (by omega) h45) N301 pd_39 e301 312 (fun T302 _ X302 N302 e302 => ?_)
        refine g_if_eq C277 X302 at_312 319 315 (fun hc312 => absurd hc312 (by decide)) (fun hc312 => ?_)
        refine g_iconst C277 X302 at_315 316 (v := 1) rfl ?_
        refine g_goto C277 X302 at_316 320 ?_
        exact g_retNH C277 X302 K hS277 hk277 hEL H_277 R_277 (by simp) at_320 (by decide) (by decide) e302 ⟨rfl, N302⟩
    · refine g_iloadN C54 X54 at_89 90 rfl ?_
      refine g_iloadN C54 X54 at_90 91 rfl ?_
      refine g_aload C54 X54 at_91 93 rfl rfl ?_
      refine g_callS0 C54 X54 (b_24 hw) at_93 [(.int p0), (.int p1), (.ref b39)] [] 0 (rm6_le hw Z54 q54_0 q54_1 q54_2 yq5 f57 f58 f59 f60 f55 hx) N54 pd_37 rfl 96 (fun T303 _ X303 N303 e303 => ?_)
      refine g_astore C54 X303 at_96 98 rfl (ls' := #[iv p0, iv p1, iv p2, iv p3, rv b1, rv b27, iv 0, rv b39, rv b39, uu, uu, uu, uu, uu, uu, uu, uu, uu, uu, uu, uu, uu]) rfl ?_
      refine g_aload C54 X303 at_98 100 rfl rfl ?_
      refine g_ifnonnullY C54 X303 at_100 105 ?_
      refine g_iloadN C54 X303 at_105 106 rfl ?_
      refine g_if_gt C54 X303 at_106 117 109 (fun hc106 => absurd hc106 hx) (fun hc106 => ?_)
      refine g_aload C54 X303 at_109 111 rfl rfl ?_
      refine g_aload C54 X303 at_111 113 rfl rfl ?_
      refine g_callV0 C54 X303 (b_25 hw) q54_0 at_113 [(.ref b39)] [] 0 (rm7 hw Z54 rfl) N303 pd_41 e303 116 (fun T304 _ X304 N304 e304 => ?_)
      exact g_retNH C54 X304 K hS54 (Nat.le_refl _) hEL H_54 R_54 (by simp) at_116 (by decide) (by decide) e304 ⟨rfl, N304⟩
  · subst hsp
    refine g_iload C X27 at_41 43 rfl ?_
    refine g_if_ne C X27 at_43 60 46 (fun hc43 => ?_) (fun hc43 => absurd hc43 (by decide))
    refine g_iload C X27 at_60 62 rfl ?_
    refine g_iconst C X27 at_62 63 (v := 1) rfl ?_
    refine g_icmp_ne C X27 at_63 78 66 (fun hc63 => absurd hc63 (by decide)) (fun hc63 => ?_)
    refine g_aload C X27 at_66 68 rfl rfl ?_
    refine g_iconst C X27 at_68 69 (v := 0) rfl ?_
    refine g_caload C X27 e27 f37 (by decide) (v := (.int (nar .char (p2 &&& (255 : Int32)).toUInt32.toUInt16.toUInt32.toInt32))) rfl at_69 70 ?_
    refine g_callS C X27 (w_2 hw) (w_3 hw) (w_4 hw) (w_5 hw) at_70 [(.int (nar .char (p2 &&& (255 : Int32)).toUInt32.toUInt16.toUInt32.toInt32))] [] 0 (rm1 hw Z27 f31 (own_nc _) hcs) pd_42 e27 73 (fun u305 T305 L305 X305 hQ305 => ?_)
    obtain ⟨o3305, o4305, kd3305, rfl, Nq305, szo3305, szo4305, Kq305, q305_0, q305_1, q305_2, q305_3⟩ := hQ305
    have N305 := Fr.app N19 Nq305
    have f314 := Sta.keepN f31 Kq305 all0
    have f315 := Sta.keepN f32 Kq305 all0
    have f316 := Sta.keepN f33 Kq305 all0
    have f317 := Sta.keepN f34 Kq305 all0
    have f318 := f35.keep Kq305 nin0
    have f319 := f36.keep Kq305 nin0
    have Z305 := Nat.le_trans Z27 Kq305.1
    have hk305 := Nat.le_trans hk27 Kq305.1
    have H_305 := CHv.keep Kq305 all0 H_27
    have R_305 := R_27.trans (CHr.keep Kq305 all0 H_27)
    refine ret1 ?_
    refine g_astore C X305 at_73 75 rfl (ls' := #[iv p0, iv p1, iv p2, iv p3, rv b1, rv b27, iv 1, rv o3305, uu, uu, uu, uu, uu, uu, uu, uu, uu, uu, uu, uu, uu, uu]) rfl ?_
    refine g_goto C X305 at_75 89 ?_
    obtain ⟨q5, e5, h5⟩ : ∃ l : List Int32, l = [(nar .byte (nar .char (p2 &&& (255 : Int32)).toUInt32.toUInt16.toUInt32.toInt32).toInt8.toInt32)] ∧ l.length ≤ 2 := ⟨_, rfl, Nat.le_of_ble_eq_true rfl⟩
    have yq5 : Arv Z T305.heap o4305 kd3305 .byte (Int32.ofNat q5.length) (q5.map Value.int) (.int 0) := by rw [e5]; exact q305_3
    by_cases hx : (0 : Int32) < p0
    · refine g_iloadN C X305 at_89 90 rfl ?_
      refine g_iloadN C X305 at_90 91 rfl ?_
      refine g_aload C X305 at_91 93 rfl rfl ?_
      refine g_callSH C X305 hS0 hk305 hEL H_305 (w_28 hw) (w_29 hw) (w_30 hw) (w_31 hw) at_93 [(.int p0), (.int p1), (.ref o3305)] [] 0 (rm6_gt hw Z305 hEL q305_0 q305_1 q305_2 yq5 f316 f317 f318 f319 f314 hcs hx h5) pd_37 rfl 96 (fun u322 T322 L322 C322 X322 hQ322 hS322 A322 => ?_)
      obtain ⟨o4322, o3322, kd3322, rfl, Nq322, szo4322, szo3322, Kq322, q322_0, q322_1, q322_2, q322_3⟩ := hQ322
      have N322 := Fr.app N305 Nq322
      have f331 := Sta.keepN f314 Kq322 all0
      have f332 := Sta.keepN f315 Kq322 all0
      have f337 := q305_0.keep Kq322
      have f338 := q305_1.keep Kq322 nin0
      have f339 := q305_2.keep Kq322 nin0
      have f340 := yq5.keep Kq322 nin0
      have Z322 := Nat.le_trans Z305 Kq322.1
      have H_322 := A322.1
      have R_322 := R_305.trans A322
      refine ret1 ?_
      refine g_astore C322 X322 at_96 98 rfl (ls' := #[iv p0, iv p1, iv p2, iv p3, rv b1, rv b27, iv 1, rv o3305, rv o4322, uu, uu, uu, uu, uu, uu, uu, uu, uu, uu, uu, uu, uu]) rfl ?_
      obtain ⟨n1, hn1⟩ : ∃ n : Nat, p0.toInt.natAbs = n := ⟨_, rfl⟩
      obtain ⟨n2, hn2⟩ : ∃ n : Nat, p1.toInt.natAbs = n := ⟨_, rfl⟩
      obtain ⟨tx, etx⟩ : ∃ l : List Int32, l = ((((((([] : List Int32) ++ ([108, 105, 110, 101, 32] : List Int32)) ++ decI p0) ++ ([44, 32, 99, 111, 108, 117, 109, 110, 32] : List Int32)) ++ decI p1) ++ ([58, 32] : List Int32)) ++ q5) := ⟨_, rfl⟩
      have ytx : Arv Z T322.heap o3322 kd3322 .byte (Int32.ofNat tx.length) (tx.map Value.int) (.int 0) := by rw [etx]; exact q322_3
      have d1 := dg_pos n1
      have d2 := dg_pos n2
      refine g_aload C322 X322 at_98 100 rfl rfl ?_
      refine g_ifnonnullY C322 X322 at_100 105 ?_
      refine g_iloadN C322 X322 at_105 106 rfl ?_
      refine g_if_gt C322 X322 at_106 117 109 (fun hc106 => ?_) (fun hc106 => absurd hx hc106)
      refine g_iloadN C322 X322 at_117 118 rfl ?_
      refine g_i2l C322 X322 at_118 119 ?_
      refine g_lstore C322 X322 at_119 121 (w := p0.toInt64) rfl (ls' := #[iv p0, iv p1, iv p2, iv p3, rv b1, rv b27, iv 1, rv o3305, rv o4322, jv p0.toInt64, sd, uu, uu, uu, uu, uu, uu, uu, uu, uu, uu, uu]) rfl ?_
      refine g_lload C322 X322 at_121 123 rfl ?_
      refine g_callS0 C322 X322 (b_22 hw) at_123 [(.long p0.toInt64)] [] 0 (rm37 hw Z322) N322 pd_38 rfl 126 (fun T341 _ X341 N341 e341 => ?_)
      rw [len_eq (i64p (posn hx) hn1)]
      refine g_istore C322 X341 at_126 128 (w := (Int32.ofNat (dg n1))) rfl (ls' := #[iv p0, iv p1, iv p2, iv p3, rv b1, rv b27, iv 1, rv o3305, rv o4322, jv p0.toInt64, sd, iv (Int32.ofNat (dg n1)), uu, uu, uu, uu, uu, uu, uu, uu, uu, uu]) rfl ?_
      refine g_iloadN C322 X341 at_128 129 rfl ?_
      refine g_if_ge C322 X341 at_129 136 132 (fun hc129 => ?_) (fun hc129 => ?_)
      · refine g_iconst C322 X341 at_136 137 (v := 0) rfl ?_
        refine g_istore C322 X341 at_137 139 (w := 0) rfl (ls' := #[iv p0, iv p1, iv p2, iv p3, rv b1, rv b27, iv 1, rv o3305, rv o4322, jv p0.toInt64, sd, iv (Int32.ofNat (dg n1)), iv 0, uu, uu, uu, uu, uu, uu, uu, uu, uu]) rfl ?_
        refine g_iload C322 X341 at_139 141 rfl ?_
        refine g_if_eq C322 X341 at_141 150 144 (fun hc141 => ?_) (fun hc141 => absurd hc141 (by decide))
        refine g_iloadN C322 X341 at_150 151 rfl ?_
        refine g_i2l C322 X341 at_151 152 ?_
        refine g_lstore C322 X341 at_152 154 (w := p1.toInt64) rfl (ls' := #[iv p0, iv p1, iv p2, iv p3, rv b1, rv b27, iv 1, rv o3305, rv o4322, jv p0.toInt64, sd, iv (Int32.ofNat (dg n1)), iv 0, jv p1.toInt64, sd, uu, uu, uu, uu, uu, uu, uu]) rfl ?_
        refine g_lload C322 X341 at_154 156 rfl ?_
        refine g_callS0 C322 X341 (b_22 hw) at_156 [(.long p1.toInt64)] [] 0 (rm37 hw Z322) N341 pd_38 e341 159 (fun T342 _ X342 N342 e342 => ?_)
        rw [len_eq (i64p hc129 hn2)]
        obtain ⟨htl, h45, ht0, ht1, ht2, ht3, ht4, ht5, ht6⟩ := msg_of hx hn1 hn2 (sgn_p hc129) (sg := 0) rfl h5 (by decide) etx
        refine g_istore C322 X342 at_159 161 (w := (Int32.ofNat (dg n2))) rfl (ls' := #[iv p0, iv p1, iv p2, iv p3, rv b1, rv b27, iv 1, rv o3305, rv o4322, jv p0.toInt64, sd, iv (Int32.ofNat (dg n1)), iv 0, jv p1.toInt64, sd, iv (Int32.ofNat (dg n2)), uu, uu, uu, uu, uu, uu]) rfl ?_
        refine g_iload C322 X342 at_161 163 rfl ?_
        refine g_if_eq C322 X342 at_163 170 166 (fun hc163 => ?_) (fun hc163 => absurd hc163 (by decide))
        refine g_iconst C322 X342 at_170 171 (v := 0) rfl ?_
        refine g_istore C322 X342 at_171 173 (w := 0) rfl (ls' := #[iv p0, iv p1, iv p2, iv p3, rv b1, rv b27, iv 1, rv o3305, rv o4322, jv p0.toInt64, sd, iv (Int32.ofNat (dg n1)), iv 0, jv p1.toInt64, sd, iv (Int32.ofNat (dg n2)), iv 0, uu, uu, uu, uu, uu]) rfl ?_
        refine g_iconst C322 X342 at_173 174 (v := 5) rfl ?_
        refine g_iload C322 X342 at_174 176 rfl ?_
        refine g_iadd C322 X342 at_176 177 ?_
        rw [show ((5 : Int32) + (Int32.ofNat (dg n1))) = (Int32.ofNat (5 + dg n1)) from i_add _ _]
        refine g_istore C322 X342 at_177 179 (w := (Int32.ofNat (5 + dg n1))) rfl (ls' := #[iv p0, iv p1, iv p2, iv p3, rv b1, rv b27, iv 1, rv o3305, rv o4322, jv p0.toInt64, sd, iv (Int32.ofNat (dg n1)), iv 0, jv p1.toInt64, sd, iv (Int32.ofNat (dg n2)), iv 0, iv (Int32.ofNat (5 + dg n1)), uu, uu, uu, uu]) rfl ?_
        refine g_iload C322 X342 at_179 181 rfl ?_
        refine g_bipush C322 X342 at_181 183 (v := 9) rfl ?_
        refine g_iadd C322 X342 at_183 184 ?_
        rw [show ((Int32.ofNat (5 + dg n1)) + (9 : Int32)) = (Int32.ofNat (5 + dg n1 + 9)) from i_add _ _]
        refine g_istore C322 X342 at_184 186 (w := (Int32.ofNat (5 + dg n1 + 9))) rfl (ls' := #[iv p0, iv p1, iv p2, iv p3, rv b1, rv b27, iv 1, rv o3305, rv o4322, jv p0.toInt64, sd, iv (Int32.ofNat (dg n1)), iv 0, jv p1.toInt64, sd, iv (Int32.ofNat (dg n2)), iv 0, iv (Int32.ofNat (5 + dg n1)), iv (Int32.ofNat (5 + dg n1 + 9)), uu, uu, uu]) rfl ?_
        refine g_iload C322 X342 at_186 188 rfl ?_
        refine g_iload C322 X342 at_188 190 rfl ?_
        refine g_iadd C322 X342 at_190 191 ?_
        rw [show ((Int32.ofNat (5 + dg n1 + 9)) + (0 : Int32)) = (Int32.ofNat (5 + dg n1 + 9 + 0)) from i_add _ _]
        refine g_istore C322 X342 at_191 193 (w := (Int32.ofNat (5 + dg n1 + 9 + 0))) rfl (ls' := #[iv p0, iv p1, iv p2, iv p3, rv b1, rv b27, iv 1, rv o3305, rv o4322, jv p0.toInt64, sd, iv (Int32.ofNat (dg n1)), iv 0, jv p1.toInt64, sd, iv (Int32.ofNat (dg n2)), iv 0, iv (Int32.ofNat (5 + dg n1)), iv (Int32.ofNat (5 + dg n1 + 9)), iv (Int32.ofNat (5 + dg n1 + 9 + 0)), uu, uu]) rfl ?_
        refine g_iload C322 X342 at_193 195 rfl ?_
        refine g_iload C322 X342 at_195 197 rfl ?_
        refine g_iadd C322 X342 at_197 198 ?_
        rw [show ((Int32.ofNat (5 + dg n1 + 9 + 0)) + (Int32.ofNat (dg n2))) = (Int32.ofNat (5 + dg n1 + 9 + 0 + dg n2)) from i_add _ _]
        refine g_istore C322 X342 at_198 200 (w := (Int32.ofNat (5 + dg n1 + 9 + 0 + dg n2))) rfl (ls' := #[iv p0, iv p1, iv p2, iv p3, rv b1, rv b27, iv 1, rv o3305, rv o4322, jv p0.toInt64, sd, iv (Int32.ofNat (dg n1)), iv 0, jv p1.toInt64, sd, iv (Int32.ofNat (dg n2)), iv 0, iv (Int32.ofNat (5 + dg n1)), iv (Int32.ofNat (5 + dg n1 + 9)), iv (Int32.ofNat (5 + dg n1 + 9 + 0)), iv (Int32.ofNat (5 + dg n1 + 9 + 0 + dg n2)), uu]) rfl ?_
        refine g_iload C322 X342 at_200 202 rfl ?_
        refine g_iconst C322 X342 at_202 203 (v := 2) rfl ?_
        refine g_iadd C322 X342 at_203 204 ?_
        rw [show ((Int32.ofNat (5 + dg n1 + 9 + 0 + dg n2)) + (2 : Int32)) = (Int32.ofNat (5 + dg n1 + 9 + 0 + dg n2 + 2)) from i_add _ _]
        refine g_istore C322 X342 at_204 206 (w := (Int32.ofNat (5 + dg n1 + 9 + 0 + dg n2 + 2))) rfl (ls' := #[iv p0, iv p1, iv p2, iv p3, rv b1, rv b27, iv 1, rv o3305, rv o4322, jv p0.toInt64, sd, iv (Int32.ofNat (dg n1)), iv 0, jv p1.toInt64, sd, iv (Int32.ofNat (dg n2)), iv 0, iv (Int32.ofNat (5 + dg n1)), iv (Int32.ofNat (5 + dg n1 + 9)), iv (Int32.ofNat (5 + dg n1 + 9 + 0)), iv (Int32.ofNat (5 + dg n1 + 9 + 0 + dg n2)), iv (Int32.ofNat (5 + dg n1 + 9 + 0 + dg n2 + 2))]) rfl ?_
        refine g_aload C322 X342 at_206 208 rfl rfl ?_
        refine g_callV0 C322 X342 (b_18 hw) q322_0 at_208 [] [] 0 (rm12_s hw Z322 q322_0 q322_1 q322_2 ytx f331 hcs) N342 pd_8 e342 211 (fun T343 _ X343 N343 e343 => ?_)
        refine g_iload C322 X343 at_211 213 rfl ?_
        refine g_aload C322 X343 at_213 215 rfl rfl ?_
        refine g_callV0 C322 X343 (b_18 hw) f337 at_215 [] [(.int (Int32.ofNat (5 + dg n1 + 9 + 0 + dg n2 + 2))), (.int (Int32.ofNat tx.length))] 2 (rm12_s hw Z322 f337 f338 f339 f340 f331 hcs) N343 pd_8 e343 218 (fun T344 _ X344 N344 e344 => ?_)
        refine g_iadd C322 X344 at_218 219 ?_
        refine g_icmp_eq C322 X344 at_219 224 222 (fun hc219 => ?_) (fun hc219 => absurd (by rw [i_add, ← htl]) hc219)
        refine g_aload C322 X344 at_224 226 rfl rfl ?_
        refine g_iconst C322 X344 at_226 227 (v := 0) rfl ?_
        refine g_ldcCH C322 X344 (n := 20) (z := (5 : Int32)) (vs := [(.int 108), (.int 105), (.int 110), (.int 101), (.int 32)]) (hw _ (List.mem_of_getElem? (i := 195) rfl)) (strAtoms hw) e344 hS322 (Nat.le_refl _) hEL (by decide) H_322 ⟨by decide, rfl⟩ (by decide) rfl at_227 229 (by decide) (by decide) (by decide) (by decide) (fun b345 T345 h345 k345 bb345 ki345 C345 X345 e345 E345 hS345 hk345 fe345 fc345 fv345 fa345 A345 sn345 => ?_)
        have f346 := f331.ext E345
        have f347 := f332.ext E345
        have f352 := f337.ext E345
        have f353 := f338.ext E345
        have f354 := f339.ext E345
        have f355 := f340.ext E345
        have f356 := q322_0.ext E345
        have f357 := q322_1.ext E345
        have f358 := q322_2.ext E345
        have f359 := ytx.ext E345
        have H_345 := A345.1
        have R_345 := R_322.trans A345
        have Z345 := Nat.le_trans Z322 E345.1
        have f360 : Arv Z h345 bb345 ki345 .byte (Int32.ofNat ([108, 105, 110, 101, 32] : List Int32).length) (([108, 105, 110, 101, 32] : List Int32).map Value.int) (.int 0) := fa345
        refine g_callS0 C345 X345 (b_23 hw) at_229 [(.ref o4322), (.int 0), (.ref b345)] [] 0 (rm38 hw Z345 f356 f357 f358 f359 fe345 fv345 fc345 f360 f346 f347 hcs hwf (show Int32.ofNat 0 = _ from rfl) ht0 (show 0 + 5 ≤ tx.length from by omega) h45) N344 pd_39 e345 232 (fun T361 _ X361 N361 e361 => ?_)
        refine g_if_eq C345 X361 at_232 319 235 (fun hc232 => absurd hc232 (by decide)) (fun hc232 => ?_)
        refine g_aload C345 X361 at_235 237 rfl rfl ?_
        refine g_iconst C345 X361 at_237 238 (v := 5) rfl ?_
        refine g_lload C345 X361 at_238 240 rfl ?_
        refine g_iload C345 X361 at_240 242 rfl ?_
        refine g_callS C345 X361 (w_223 hw) (w_224 hw) (w_190 hw) (w_225 hw) at_242 [(.ref o4322), (.int 5), (.long p0.toInt64), (.int (Int32.ofNat (dg n1)))] [] 0 (rm45 hw Z345 f356 f357 f358 f359 f346 f347 hcs hwf (show Int32.ofNat 5 = _ from rfl) (i64p (posn hx) hn1) rfl (hn1 ▸ natAbs_le _) ht1 (by omega) h45) pd_40 e361 245 (fun u362 T362 L362 X362 hQ362 => ?_)
        obtain ⟨rfl, Nq362, Kq362⟩ := hQ362
        have N362 := Fr.app N361 Nq362
        have f363 := Sta.keepN f346 Kq362 all0
        have f364 := Sta.keepN f347 Kq362 all0
        have f369 := f352.keep Kq362
        have f370 := f353.keep Kq362 nin0
        have f371 := f354.keep Kq362 nin0
        have f372 := f355.keep Kq362 nin0
        have f373 := f356.keep Kq362
        have f374 := f357.keep Kq362 nin0
        have f375 := f358.keep Kq362 nin0
        have f376 := f359.keep Kq362 nin0
        have Z362 := Nat.le_trans Z345 Kq362.1
        have hk362 := Nat.le_trans hk345 Kq362.1
        have H_362 := CHv.keep Kq362 all0 H_345
        have R_362 := R_345.trans (CHr.keep Kq362 all0 H_345)
        refine ret1 ?_
        refine g_if_eq C345 X362 at_245 319 248 (fun hc245 => absurd hc245 (by decide)) (fun hc245 => ?_)
        refine g_aload C345 X362 at_248 250 rfl rfl ?_
        refine g_iload C345 X362 at_250 252 rfl ?_
        refine g_ldcCH C345 X362 (n := 36) (z := (9 : Int32)) (vs := [(.int 44), (.int 32), (.int 99), (.int 111), (.int 108), (.int 117), (.int 109), (.int 110), (.int 32)]) (hw _ (List.mem_of_getElem? (i := 240) rfl)) (strAtoms hw) rfl hS345 hk362 hEL (by decide) H_362 ⟨by decide, rfl⟩ (by decide) rfl at_252 254 (by decide) (by decide) (by decide) (by decide) (fun b381 T381 h381 k381 bb381 ki381 C381 X381 e381 E381 hS381 hk381 fe381 fc381 fv381 fa381 A381 sn381 => ?_)
        have f382 := f363.ext E381
        have f383 := f364.ext E381
        have f388 := f369.ext E381
        have f389 := f370.ext E381
        have f390 := f371.ext E381
        have f391 := f372.ext E381
        have f392 := f373.ext E381
        have f393 := f374.ext E381
        have f394 := f375.ext E381
        have f395 := f376.ext E381
        have H_381 := A381.1
        have R_381 := R_362.trans A381
        have Z381 := Nat.le_trans Z362 E381.1
        have f400 : Arv Z h381 bb381 ki381 .byte (Int32.ofNat ([44, 32, 99, 111, 108, 117, 109, 110, 32] : List Int32).length) (([44, 32, 99, 111, 108, 117, 109, 110, 32] : List Int32).map Value.int) (.int 0) := fa381
        refine g_callS0 C381 X381 (b_23 hw) at_254 [(.ref o4322), (.int (Int32.ofNat (5 + dg n1))), (.ref b381)] [] 0 (rm38 hw Z381 f392 f393 f394 f395 fe381 fv381 fc381 f400 f382 f383 hcs hwf (show Int32.ofNat (5 + dg n1) = _ from rfl) ht2 (show (5 + dg n1) + 9 ≤ tx.length from by omega) h45) N362 pd_39 e381 257 (fun T401 _ X401 N401 e401 => ?_)
        refine g_if_eq C381 X401 at_257 319 260 (fun hc257 => absurd hc257 (by decide)) (fun hc257 => ?_)
        refine g_iload C381 X401 at_260 262 rfl ?_
        refine g_if_eq C381 X401 at_262 277 265 (fun hc262 => ?_) (fun hc262 => absurd hc262 (by decide))
        refine g_aload C381 X401 at_277 279 rfl rfl ?_
        refine g_iload C381 X401 at_279 281 rfl ?_
        refine g_lload C381 X401 at_281 283 rfl ?_
        refine g_iload C381 X401 at_283 285 rfl ?_
        refine g_callS C381 X401 (w_223 hw) (w_224 hw) (w_190 hw) (w_225 hw) at_285 [(.ref o4322), (.int (Int32.ofNat (5 + dg n1 + 9 + 0))), (.long p1.toInt64), (.int (Int32.ofNat (dg n2)))] [] 0 (rm45 hw Z381 f392 f393 f394 f395 f382 f383 hcs hwf (show Int32.ofNat (5 + dg n1 + 9 + 0) = _ from rfl) (i64p hc129 hn2) rfl (hn2 ▸ natAbs_le _) ht4 (by omega) h45) pd_40 e401 288 (fun u402 T402 L402 X402 hQ402 => ?_)
        obtain ⟨rfl, Nq402, Kq402⟩ := hQ402
        have N402 := Fr.app N401 Nq402
        have f403 := Sta.keepN f382 Kq402 all0
        have f404 := Sta.keepN f383 Kq402 all0
        have f409 := f388.keep Kq402
        have f410 := f389.keep Kq402 nin0
        have f411 := f390.keep Kq402 nin0
        have f412 := f391.keep Kq402 nin0
        have f413 := f392.keep Kq402
        have f414 := f393.keep Kq402 nin0
        have f415 := f394.keep Kq402 nin0
        have f416 := f395.keep Kq402 nin0
        have Z402 := Nat.le_trans Z381 Kq402.1
        have hk402 := Nat.le_trans hk381 Kq402.1
        have H_402 := CHv.keep Kq402 all0 H_381
        have R_402 := R_381.trans (CHr.keep Kq402 all0 H_381)
        refine ret1 ?_
        refine g_if_eq C381 X402 at_288 319 291 (fun hc288 => absurd hc288 (by decide)) (fun hc288 => ?_)
        refine g_aload C381 X402 at_291 293 rfl rfl ?_
        refine g_iload C381 X402 at_293 295 rfl ?_
        refine g_ldcCH C381 X402 (n := 8) (z := (2 : Int32)) (vs := [(.int 58), (.int 32)]) (hw _ (List.mem_of_getElem? (i := 241) rfl)) (strAtoms hw) rfl hS381 hk402 hEL (by decide) H_402 ⟨by decide, rfl⟩ (by decide) rfl at_295 297 (by decide) (by decide) (by decide) (by decide) (fun b425 T425 h425 k425 bb425 ki425 C425 X425 e425 E425 hS425 hk425 fe425 fc425 fv425 fa425 A425 sn425 => ?_)
        have f426 := f403.ext E425
        have f427 := f404.ext E425
        have f432 := f409.ext E425
        have f433 := f410.ext E425
        have f434 := f411.ext E425
        have f435 := f412.ext E425
        have f436 := f413.ext E425
        have f437 := f414.ext E425
        have f438 := f415.ext E425
        have f439 := f416.ext E425
        have H_425 := A425.1
        have R_425 := R_402.trans A425
        have Z425 := Nat.le_trans Z402 E425.1
        have f448 : Arv Z h425 bb425 ki425 .byte (Int32.ofNat ([58, 32] : List Int32).length) (([58, 32] : List Int32).map Value.int) (.int 0) := fa425
        refine g_callS0 C425 X425 (b_23 hw) at_297 [(.ref o4322), (.int (Int32.ofNat (5 + dg n1 + 9 + 0 + dg n2))), (.ref b425)] [] 0 (rm38 hw Z425 f436 f437 f438 f439 fe425 fv425 fc425 f448 f426 f427 hcs hwf (show Int32.ofNat (5 + dg n1 + 9 + 0 + dg n2) = _ from rfl) ht5 (show (5 + dg n1 + 9 + 0 + dg n2) + 2 ≤ tx.length from by omega) h45) N402 pd_39 e425 300 (fun T449 _ X449 N449 e449 => ?_)
        refine g_if_eq C425 X449 at_300 319 303 (fun hc300 => absurd hc300 (by decide)) (fun hc300 => ?_)
        refine g_aload C425 X449 at_303 305 rfl rfl ?_
        refine g_iload C425 X449 at_305 307 rfl ?_
        refine g_aload C425 X449 at_307 309 rfl rfl ?_
        refine g_callS0 C425 X449 (b_23 hw) at_309 [(.ref o4322), (.int (Int32.ofNat (5 + dg n1 + 9 + 0 + dg n2 + 2))), (.ref o3305)] [] 0 (rm38 hw Z425 f436 f437 f438 f439 f432 f433 f434 f435 f426 f427 hcs hwf rfl ht6 (by omega) h45) N449 pd_39 e449 312 (fun T450 _ X450 N450 e450 => ?_)
        refine g_if_eq C425 X450 at_312 319 315 (fun hc312 => absurd hc312 (by decide)) (fun hc312 => ?_)
        refine g_iconst C425 X450 at_315 316 (v := 1) rfl ?_
        refine g_goto C425 X450 at_316 320 ?_
        exact g_retNH C425 X450 K hS425 hk425 hEL H_425 R_425 (by simp) at_320 (by decide) (by decide) e450 ⟨rfl, N450⟩
      · refine g_iconst C322 X341 at_132 133 (v := 1) rfl ?_
        refine g_goto C322 X341 at_133 137 ?_
        refine g_istore C322 X341 at_137 139 (w := 1) rfl (ls' := #[iv p0, iv p1, iv p2, iv p3, rv b1, rv b27, iv 1, rv o3305, rv o4322, jv p0.toInt64, sd, iv (Int32.ofNat (dg n1)), iv 1, uu, uu, uu, uu, uu, uu, uu, uu, uu]) rfl ?_
        refine g_iload C322 X341 at_139 141 rfl ?_
        refine g_if_eq C322 X341 at_141 150 144 (fun hc141 => absurd hc141 (by decide)) (fun hc141 => ?_)
        refine g_iloadN C322 X341 at_144 145 rfl ?_
        refine g_i2l C322 X341 at_145 146 ?_
        refine g_lneg C322 X341 at_146 147 ?_
        refine g_goto C322 X341 at_147 152 ?_
        refine g_lstore C322 X341 at_152 154 (w := (-p1.toInt64)) rfl (ls' := #[iv p0, iv p1, iv p2, iv p3, rv b1, rv b27, iv 1, rv o3305, rv o4322, jv p0.toInt64, sd, iv (Int32.ofNat (dg n1)), iv 1, jv (-p1.toInt64), sd, uu, uu, uu, uu, uu, uu, uu]) rfl ?_
        refine g_lload C322 X341 at_154 156 rfl ?_
        refine g_callS0 C322 X341 (b_22 hw) at_156 [(.long (-p1.toInt64))] [] 0 (rm37 hw Z322) N341 pd_38 e341 159 (fun T451 _ X451 N451 e451 => ?_)
        rw [len_eq (i64n hc129 hn2)]
        obtain ⟨htl, h45, ht0, ht1, ht2, ht3, ht4, ht5, ht6⟩ := msg_of hx hn1 hn2 (sgn_n hc129) (sg := 1) rfl h5 (by decide) etx
        refine g_istore C322 X451 at_159 161 (w := (Int32.ofNat (dg n2))) rfl (ls' := #[iv p0, iv p1, iv p2, iv p3, rv b1, rv b27, iv 1, rv o3305, rv o4322, jv p0.toInt64, sd, iv (Int32.ofNat (dg n1)), iv 1, jv (-p1.toInt64), sd, iv (Int32.ofNat (dg n2)), uu, uu, uu, uu, uu, uu]) rfl ?_
        refine g_iload C322 X451 at_161 163 rfl ?_
        refine g_if_eq C322 X451 at_163 170 166 (fun hc163 => absurd hc163 (by decide)) (fun hc163 => ?_)
        refine g_iconst C322 X451 at_166 167 (v := 1) rfl ?_
        refine g_goto C322 X451 at_167 171 ?_
        refine g_istore C322 X451 at_171 173 (w := 1) rfl (ls' := #[iv p0, iv p1, iv p2, iv p3, rv b1, rv b27, iv 1, rv o3305, rv o4322, jv p0.toInt64, sd, iv (Int32.ofNat (dg n1)), iv 1, jv (-p1.toInt64), sd, iv (Int32.ofNat (dg n2)), iv 1, uu, uu, uu, uu, uu]) rfl ?_
        refine g_iconst C322 X451 at_173 174 (v := 5) rfl ?_
        refine g_iload C322 X451 at_174 176 rfl ?_
        refine g_iadd C322 X451 at_176 177 ?_
        rw [show ((5 : Int32) + (Int32.ofNat (dg n1))) = (Int32.ofNat (5 + dg n1)) from i_add _ _]
        refine g_istore C322 X451 at_177 179 (w := (Int32.ofNat (5 + dg n1))) rfl (ls' := #[iv p0, iv p1, iv p2, iv p3, rv b1, rv b27, iv 1, rv o3305, rv o4322, jv p0.toInt64, sd, iv (Int32.ofNat (dg n1)), iv 1, jv (-p1.toInt64), sd, iv (Int32.ofNat (dg n2)), iv 1, iv (Int32.ofNat (5 + dg n1)), uu, uu, uu, uu]) rfl ?_
        refine g_iload C322 X451 at_179 181 rfl ?_
        refine g_bipush C322 X451 at_181 183 (v := 9) rfl ?_
        refine g_iadd C322 X451 at_183 184 ?_
        rw [show ((Int32.ofNat (5 + dg n1)) + (9 : Int32)) = (Int32.ofNat (5 + dg n1 + 9)) from i_add _ _]
        refine g_istore C322 X451 at_184 186 (w := (Int32.ofNat (5 + dg n1 + 9))) rfl (ls' := #[iv p0, iv p1, iv p2, iv p3, rv b1, rv b27, iv 1, rv o3305, rv o4322, jv p0.toInt64, sd, iv (Int32.ofNat (dg n1)), iv 1, jv (-p1.toInt64), sd, iv (Int32.ofNat (dg n2)), iv 1, iv (Int32.ofNat (5 + dg n1)), iv (Int32.ofNat (5 + dg n1 + 9)), uu, uu, uu]) rfl ?_
        refine g_iload C322 X451 at_186 188 rfl ?_
        refine g_iload C322 X451 at_188 190 rfl ?_
        refine g_iadd C322 X451 at_190 191 ?_
        rw [show ((Int32.ofNat (5 + dg n1 + 9)) + (1 : Int32)) = (Int32.ofNat (5 + dg n1 + 9 + 1)) from i_add _ _]
        refine g_istore C322 X451 at_191 193 (w := (Int32.ofNat (5 + dg n1 + 9 + 1))) rfl (ls' := #[iv p0, iv p1, iv p2, iv p3, rv b1, rv b27, iv 1, rv o3305, rv o4322, jv p0.toInt64, sd, iv (Int32.ofNat (dg n1)), iv 1, jv (-p1.toInt64), sd, iv (Int32.ofNat (dg n2)), iv 1, iv (Int32.ofNat (5 + dg n1)), iv (Int32.ofNat (5 + dg n1 + 9)), iv (Int32.ofNat (5 + dg n1 + 9 + 1)), uu, uu]) rfl ?_
        refine g_iload C322 X451 at_193 195 rfl ?_
        refine g_iload C322 X451 at_195 197 rfl ?_
        refine g_iadd C322 X451 at_197 198 ?_
        rw [show ((Int32.ofNat (5 + dg n1 + 9 + 1)) + (Int32.ofNat (dg n2))) = (Int32.ofNat (5 + dg n1 + 9 + 1 + dg n2)) from i_add _ _]
        refine g_istore C322 X451 at_198 200 (w := (Int32.ofNat (5 + dg n1 + 9 + 1 + dg n2))) rfl (ls' := #[iv p0, iv p1, iv p2, iv p3, rv b1, rv b27, iv 1, rv o3305, rv o4322, jv p0.toInt64, sd, iv (Int32.ofNat (dg n1)), iv 1, jv (-p1.toInt64), sd, iv (Int32.ofNat (dg n2)), iv 1, iv (Int32.ofNat (5 + dg n1)), iv (Int32.ofNat (5 + dg n1 + 9)), iv (Int32.ofNat (5 + dg n1 + 9 + 1)), iv (Int32.ofNat (5 + dg n1 + 9 + 1 + dg n2)), uu]) rfl ?_
        refine g_iload C322 X451 at_200 202 rfl ?_
        refine g_iconst C322 X451 at_202 203 (v := 2) rfl ?_
        refine g_iadd C322 X451 at_203 204 ?_
        rw [show ((Int32.ofNat (5 + dg n1 + 9 + 1 + dg n2)) + (2 : Int32)) = (Int32.ofNat (5 + dg n1 + 9 + 1 + dg n2 + 2)) from i_add _ _]
        refine g_istore C322 X451 at_204 206 (w := (Int32.ofNat (5 + dg n1 + 9 + 1 + dg n2 + 2))) rfl (ls' := #[iv p0, iv p1, iv p2, iv p3, rv b1, rv b27, iv 1, rv o3305, rv o4322, jv p0.toInt64, sd, iv (Int32.ofNat (dg n1)), iv 1, jv (-p1.toInt64), sd, iv (Int32.ofNat (dg n2)), iv 1, iv (Int32.ofNat (5 + dg n1)), iv (Int32.ofNat (5 + dg n1 + 9)), iv (Int32.ofNat (5 + dg n1 + 9 + 1)), iv (Int32.ofNat (5 + dg n1 + 9 + 1 + dg n2)), iv (Int32.ofNat (5 + dg n1 + 9 + 1 + dg n2 + 2))]) rfl ?_
        refine g_aload C322 X451 at_206 208 rfl rfl ?_
        refine g_callV0 C322 X451 (b_18 hw) q322_0 at_208 [] [] 0 (rm12_s hw Z322 q322_0 q322_1 q322_2 ytx f331 hcs) N451 pd_8 e451 211 (fun T452 _ X452 N452 e452 => ?_)
        refine g_iload C322 X452 at_211 213 rfl ?_
        refine g_aload C322 X452 at_213 215 rfl rfl ?_
        refine g_callV0 C322 X452 (b_18 hw) f337 at_215 [] [(.int (Int32.ofNat (5 + dg n1 + 9 + 1 + dg n2 + 2))), (.int (Int32.ofNat tx.length))] 2 (rm12_s hw Z322 f337 f338 f339 f340 f331 hcs) N452 pd_8 e452 218 (fun T453 _ X453 N453 e453 => ?_)
        refine g_iadd C322 X453 at_218 219 ?_
        refine g_icmp_eq C322 X453 at_219 224 222 (fun hc219 => ?_) (fun hc219 => absurd (by rw [i_add, ← htl]) hc219)
        refine g_aload C322 X453 at_224 226 rfl rfl ?_
        refine g_iconst C322 X453 at_226 227 (v := 0) rfl ?_
        refine g_ldcCH C322 X453 (n := 20) (z := (5 : Int32)) (vs := [(.int 108), (.int 105), (.int 110), (.int 101), (.int 32)]) (hw _ (List.mem_of_getElem? (i := 195) rfl)) (strAtoms hw) e453 hS322 (Nat.le_refl _) hEL (by decide) H_322 ⟨by decide, rfl⟩ (by decide) rfl at_227 229 (by decide) (by decide) (by decide) (by decide) (fun b454 T454 h454 k454 bb454 ki454 C454 X454 e454 E454 hS454 hk454 fe454 fc454 fv454 fa454 A454 sn454 => ?_)
        have f455 := f331.ext E454
        have f456 := f332.ext E454
        have f461 := f337.ext E454
        have f462 := f338.ext E454
        have f463 := f339.ext E454
        have f464 := f340.ext E454
        have f465 := q322_0.ext E454
        have f466 := q322_1.ext E454
        have f467 := q322_2.ext E454
        have f468 := ytx.ext E454
        have H_454 := A454.1
        have R_454 := R_322.trans A454
        have Z454 := Nat.le_trans Z322 E454.1
        have f469 : Arv Z h454 bb454 ki454 .byte (Int32.ofNat ([108, 105, 110, 101, 32] : List Int32).length) (([108, 105, 110, 101, 32] : List Int32).map Value.int) (.int 0) := fa454
        refine g_callS0 C454 X454 (b_23 hw) at_229 [(.ref o4322), (.int 0), (.ref b454)] [] 0 (rm38 hw Z454 f465 f466 f467 f468 fe454 fv454 fc454 f469 f455 f456 hcs hwf (show Int32.ofNat 0 = _ from rfl) ht0 (show 0 + 5 ≤ tx.length from by omega) h45) N453 pd_39 e454 232 (fun T470 _ X470 N470 e470 => ?_)
        refine g_if_eq C454 X470 at_232 319 235 (fun hc232 => absurd hc232 (by decide)) (fun hc232 => ?_)
        refine g_aload C454 X470 at_235 237 rfl rfl ?_
        refine g_iconst C454 X470 at_237 238 (v := 5) rfl ?_
        refine g_lload C454 X470 at_238 240 rfl ?_
        refine g_iload C454 X470 at_240 242 rfl ?_
        refine g_callS C454 X470 (w_223 hw) (w_224 hw) (w_190 hw) (w_225 hw) at_242 [(.ref o4322), (.int 5), (.long p0.toInt64), (.int (Int32.ofNat (dg n1)))] [] 0 (rm45 hw Z454 f465 f466 f467 f468 f455 f456 hcs hwf (show Int32.ofNat 5 = _ from rfl) (i64p (posn hx) hn1) rfl (hn1 ▸ natAbs_le _) ht1 (by omega) h45) pd_40 e470 245 (fun u471 T471 L471 X471 hQ471 => ?_)
        obtain ⟨rfl, Nq471, Kq471⟩ := hQ471
        have N471 := Fr.app N470 Nq471
        have f472 := Sta.keepN f455 Kq471 all0
        have f473 := Sta.keepN f456 Kq471 all0
        have f478 := f461.keep Kq471
        have f479 := f462.keep Kq471 nin0
        have f480 := f463.keep Kq471 nin0
        have f481 := f464.keep Kq471 nin0
        have f482 := f465.keep Kq471
        have f483 := f466.keep Kq471 nin0
        have f484 := f467.keep Kq471 nin0
        have f485 := f468.keep Kq471 nin0
        have Z471 := Nat.le_trans Z454 Kq471.1
        have hk471 := Nat.le_trans hk454 Kq471.1
        have H_471 := CHv.keep Kq471 all0 H_454
        have R_471 := R_454.trans (CHr.keep Kq471 all0 H_454)
        refine ret1 ?_
        refine g_if_eq C454 X471 at_245 319 248 (fun hc245 => absurd hc245 (by decide)) (fun hc245 => ?_)
        refine g_aload C454 X471 at_248 250 rfl rfl ?_
        refine g_iload C454 X471 at_250 252 rfl ?_
        refine g_ldcCH C454 X471 (n := 36) (z := (9 : Int32)) (vs := [(.int 44), (.int 32), (.int 99), (.int 111), (.int 108), (.int 117), (.int 109), (.int 110), (.int 32)]) (hw _ (List.mem_of_getElem? (i := 240) rfl)) (strAtoms hw) rfl hS454 hk471 hEL (by decide) H_471 ⟨by decide, rfl⟩ (by decide) rfl at_252 254 (by decide) (by decide) (by decide) (by decide) (fun b490 T490 h490 k490 bb490 ki490 C490 X490 e490 E490 hS490 hk490 fe490 fc490 fv490 fa490 A490 sn490 => ?_)
        have f491 := f472.ext E490
        have f492 := f473.ext E490
        have f497 := f478.ext E490
        have f498 := f479.ext E490
        have f499 := f480.ext E490
        have f500 := f481.ext E490
        have f501 := f482.ext E490
        have f502 := f483.ext E490
        have f503 := f484.ext E490
        have f504 := f485.ext E490
        have H_490 := A490.1
        have R_490 := R_471.trans A490
        have Z490 := Nat.le_trans Z471 E490.1
        have f509 : Arv Z h490 bb490 ki490 .byte (Int32.ofNat ([44, 32, 99, 111, 108, 117, 109, 110, 32] : List Int32).length) (([44, 32, 99, 111, 108, 117, 109, 110, 32] : List Int32).map Value.int) (.int 0) := fa490
        refine g_callS0 C490 X490 (b_23 hw) at_254 [(.ref o4322), (.int (Int32.ofNat (5 + dg n1))), (.ref b490)] [] 0 (rm38 hw Z490 f501 f502 f503 f504 fe490 fv490 fc490 f509 f491 f492 hcs hwf (show Int32.ofNat (5 + dg n1) = _ from rfl) ht2 (show (5 + dg n1) + 9 ≤ tx.length from by omega) h45) N471 pd_39 e490 257 (fun T510 _ X510 N510 e510 => ?_)
        refine g_if_eq C490 X510 at_257 319 260 (fun hc257 => absurd hc257 (by decide)) (fun hc257 => ?_)
        refine g_iload C490 X510 at_260 262 rfl ?_
        refine g_if_eq C490 X510 at_262 277 265 (fun hc262 => absurd hc262 (by decide)) (fun hc262 => ?_)
        refine g_aload C490 X510 at_265 267 rfl rfl ?_
        refine g_iload C490 X510 at_267 269 rfl ?_
        refine g_callV0 C490 X510 (b_17 hw) f501 at_269 [(.int (Int32.ofNat (5 + dg n1 + 9)))] [] 0 (rm40_s hw Z490 f501 f502 f503 f504 f491 f492 hcs hwf rfl (by omega) (by omega)) N510 pd_26 e510 272 (fun T511 _ X511 N511 e511 => ?_)
        refine g_bipush C490 X511 at_272 274 (v := 45) rfl ?_
        refine g_icmp_ne C490 X511 at_274 319 277 (fun hc274 => absurd (msg45 (ht3 0 (by decide))) hc274) (fun hc274 => ?_)
        refine g_aload C490 X511 at_277 279 rfl rfl ?_
        refine g_iload C490 X511 at_279 281 rfl ?_
        refine g_lload C490 X511 at_281 283 rfl ?_
        refine g_iload C490 X511 at_283 285 rfl ?_
        refine g_callS C490 X511 (w_223 hw) (w_224 hw) (w_190 hw) (w_225 hw) at_285 [(.ref o4322), (.int (Int32.ofNat (5 + dg n1 + 9 + 1))), (.long (-p1.toInt64)), (.int (Int32.ofNat (dg n2)))] [] 0 (rm45 hw Z490 f501 f502 f503 f504 f491 f492 hcs hwf (show Int32.ofNat (5 + dg n1 + 9 + 1) = _ from rfl) (i64n hc129 hn2) rfl (hn2 ▸ natAbs_le _) ht4 (by omega) h45) pd_40 e511 288 (fun u512 T512 L512 X512 hQ512 => ?_)
        obtain ⟨rfl, Nq512, Kq512⟩ := hQ512
        have N512 := Fr.app N511 Nq512
        have f513 := Sta.keepN f491 Kq512 all0
        have f514 := Sta.keepN f492 Kq512 all0
        have f519 := f497.keep Kq512
        have f520 := f498.keep Kq512 nin0
        have f521 := f499.keep Kq512 nin0
        have f522 := f500.keep Kq512 nin0
        have f523 := f501.keep Kq512
        have f524 := f502.keep Kq512 nin0
        have f525 := f503.keep Kq512 nin0
        have f526 := f504.keep Kq512 nin0
        have Z512 := Nat.le_trans Z490 Kq512.1
        have hk512 := Nat.le_trans hk490 Kq512.1
        have H_512 := CHv.keep Kq512 all0 H_490
        have R_512 := R_490.trans (CHr.keep Kq512 all0 H_490)
        refine ret1 ?_
        refine g_if_eq C490 X512 at_288 319 291 (fun hc288 => absurd hc288 (by decide)) (fun hc288 => ?_)
        refine g_aload C490 X512 at_291 293 rfl rfl ?_
        refine g_iload C490 X512 at_293 295 rfl ?_
        refine g_ldcCH C490 X512 (n := 8) (z := (2 : Int32)) (vs := [(.int 58), (.int 32)]) (hw _ (List.mem_of_getElem? (i := 241) rfl)) (strAtoms hw) rfl hS490 hk512 hEL (by decide) H_512 ⟨by decide, rfl⟩ (by decide) rfl at_295 297 (by decide) (by decide) (by decide) (by decide) (fun b535 T535 h535 k535 bb535 ki535 C535 X535 e535 E535 hS535 hk535 fe535 fc535 fv535 fa535 A535 sn535 => ?_)
        have f536 := f513.ext E535
        have f537 := f514.ext E535
        have f542 := f519.ext E535
        have f543 := f520.ext E535
        have f544 := f521.ext E535
        have f545 := f522.ext E535
        have f546 := f523.ext E535
        have f547 := f524.ext E535
        have f548 := f525.ext E535
        have f549 := f526.ext E535
        have H_535 := A535.1
        have R_535 := R_512.trans A535
        have Z535 := Nat.le_trans Z512 E535.1
        have f558 : Arv Z h535 bb535 ki535 .byte (Int32.ofNat ([58, 32] : List Int32).length) (([58, 32] : List Int32).map Value.int) (.int 0) := fa535
        refine g_callS0 C535 X535 (b_23 hw) at_297 [(.ref o4322), (.int (Int32.ofNat (5 + dg n1 + 9 + 1 + dg n2))), (.ref b535)] [] 0 (rm38 hw Z535 f546 f547 f548 f549 fe535 fv535 fc535 f558 f536 f537 hcs hwf (show Int32.ofNat (5 + dg n1 + 9 + 1 + dg n2) = _ from rfl) ht5 (show (5 + dg n1 + 9 + 1 + dg n2) + 2 ≤ tx.length from by omega) h45) N512 pd_39 e535 300 (fun T559 _ X559 N559 e559 => ?_)
        refine g_if_eq C535 X559 at_300 319 303 (fun hc300 => absurd hc300 (by decide)) (fun hc300 => ?_)
        refine g_aload C535 X559 at_303 305 rfl rfl ?_
        refine g_iload C535 X559 at_305 307 rfl ?_
        refine g_aload C535 X559 at_307 309 rfl rfl ?_
        refine g_callS0 C535 X559 (b_23 hw) at_309 [(.ref o4322), (.int (Int32.ofNat (5 + dg n1 + 9 + 1 + dg n2 + 2))), (.ref o3305)] [] 0 (rm38 hw Z535 f546 f547 f548 f549 f542 f543 f544 f545 f536 f537 hcs hwf rfl ht6 (by omega) h45) N559 pd_39 e559 312 (fun T560 _ X560 N560 e560 => ?_)
        refine g_if_eq C535 X560 at_312 319 315 (fun hc312 => absurd hc312 (by decide)) (fun hc312 => ?_)
        refine g_iconst C535 X560 at_315 316 (v := 1) rfl ?_
        refine g_goto C535 X560 at_316 320 ?_
        exact g_retNH C535 X560 K hS535 hk535 hEL H_535 R_535 (by simp) at_320 (by decide) (by decide) e560 ⟨rfl, N560⟩
    · refine g_iloadN C X305 at_89 90 rfl ?_
      refine g_iloadN C X305 at_90 91 rfl ?_
      refine g_aload C X305 at_91 93 rfl rfl ?_
      refine g_callS0 C X305 (b_24 hw) at_93 [(.int p0), (.int p1), (.ref o3305)] [] 0 (rm6_le hw Z305 q305_0 q305_1 q305_2 yq5 f316 f317 f318 f319 f314 hx) N305 pd_37 rfl 96 (fun T561 _ X561 N561 e561 => ?_)
      refine g_astore C X561 at_96 98 rfl (ls' := #[iv p0, iv p1, iv p2, iv p3, rv b1, rv b27, iv 1, rv o3305, rv o3305, uu, uu, uu, uu, uu, uu, uu, uu, uu, uu, uu, uu, uu]) rfl ?_
      refine g_aload C X561 at_98 100 rfl rfl ?_
      refine g_ifnonnullY C X561 at_100 105 ?_
      refine g_iloadN C X561 at_105 106 rfl ?_
      refine g_if_gt C X561 at_106 117 109 (fun hc106 => absurd hc106 hx) (fun hc106 => ?_)
      refine g_aload C X561 at_109 111 rfl rfl ?_
      refine g_aload C X561 at_111 113 rfl rfl ?_
      refine g_callV0 C X561 (b_25 hw) q305_0 at_113 [(.ref o3305)] [] 0 (rm7 hw Z305 rfl) N561 pd_41 e561 116 (fun T562 _ X562 N562 e562 => ?_)
      exact g_retNH C X562 K hS0 hk305 hEL H_305 R_305 (by simp) at_116 (by decide) (by decide) e562 ⟨rfl, N562⟩
  · subst hsp
    refine g_iload C X27 at_41 43 rfl ?_
    refine g_if_ne C X27 at_43 60 46 (fun hc43 => ?_) (fun hc43 => absurd hc43 (by decide))
    refine g_iload C X27 at_60 62 rfl ?_
    refine g_iconst C X27 at_62 63 (v := 1) rfl ?_
    refine g_icmp_ne C X27 at_63 78 66 (fun hc63 => ?_) (fun hc63 => absurd hc63 (by decide))
    refine g_new C X27 (w_242 hw) (w_12 hw) (w_4 hw) e27 at_78 81 (by decide) (by decide) (fun T563 h563 b563 X563 e563 g563 E563 A563 D563 => ?_)
    have n564 : b1 ≠ b563 := Nat.ne_of_lt (Nat.lt_of_lt_of_eq f37.lt g563.symm)
    have n566 : o7 ≠ b563 := Nat.ne_of_lt (Nat.lt_of_lt_of_eq f35.lt g563.symm)
    have n567 : o8 ≠ b563 := Nat.ne_of_lt (Nat.lt_of_lt_of_eq f36.lt g563.symm)
    have f568 := f31.ext E563
    have f569 := f32.ext E563
    have f570 := f33.ext E563
    have f571 := f34.ext E563
    have f572 := f35.ext E563
    have f573 := f36.ext E563
    have f574 := f37.ext E563
    have gn_b563 : n0 ≤ b563 := Nat.le_trans Z27 (Nat.le_of_eq g563.symm)
    have Z563 := Nat.le_trans Z27 E563.1
    have hk563 := Nat.le_trans hk27 E563.1
    have H_563 := H_27.ext E563
    have R_563 := R_27.trans (CHr.ext E563 H_27)
    have sf_b563_563 := Safe.ext E563 H_27 (Safe.new (Nat.le_of_eq g563.symm))
    have f576 : OFv Z h563 b563 .null := D563 (Or.inr (w_25 hw)) (ty := (.array .byte)) (by decide)
    have f577 : OFc Z h563 b563 := D563 (Or.inr (w_27 hw)) (ty := .byte) (by decide)
    refine g_dup C X563 at_81 82 rfl ?_
    refine g_aload C X563 at_82 84 rfl rfl ?_
    refine g_callI C X563 rfl (w_243 hw) (w_244 hw) (w_4 hw) (w_245 hw) at_84 [(.ref b1)] [(.ref b563)] 1 (rm48_2 hw Z563 A563 f576 f577 f574 f568 gn_b563 (own_nc _) (own_nc _) hcs (Ne.symm n564)) pd_36 e563 87 (fun u578 T578 L578 X578 hQ578 => ?_)
    obtain ⟨o3578, kd3578, rfl, Nq578, szo3578, Kq578, q578_0, q578_1, q578_2, q578_3⟩ := hQ578
    have N578 := Fr.app N19 Nq578
    have f584 := Sta.keepN f568 Kq578 (allS (Exa.ns A563) all0)
    have f585 := Sta.keepN f569 Kq578 (allS (Exa.ns A563) all0)
    have f586 := Sta.keepN f570 Kq578 (allS (Exa.ns A563) all0)
    have f587 := Sta.keepN f571 Kq578 (allS (Exa.ns A563) all0)
    have f588 := f572.keep Kq578 (ninS n566 nin0)
    have f589 := f573.keep Kq578 (ninS n567 nin0)
    have Z578 := Nat.le_trans Z563 Kq578.1
    have hk578 := Nat.le_trans hk563 Kq578.1
    have H_578 := CHv.keep Kq578 (allS sf_b563_563 all0) H_563
    have R_578 := R_563.trans (CHr.keep Kq578 (allS sf_b563_563 all0) H_563)
    refine ret0 ?_
    refine g_astore C X578 at_87 89 rfl (ls' := #[iv p0, iv p1, iv p2, iv p3, rv b1, rv b27, iv 2, rv b563, uu, uu, uu, uu, uu, uu, uu, uu, uu, uu, uu, uu, uu, uu]) rfl ?_
    obtain ⟨q5, e5, h5⟩ : ∃ l : List Int32, l = [(nar .byte (nar .char (p2 &&& (255 : Int32)).toUInt32.toUInt16.toUInt32.toInt32).toInt8.toInt32), (nar .byte (nar .char ((XT.ushr p2 (8 : Int32)) &&& (255 : Int32)).toUInt32.toUInt16.toUInt32.toInt32).toInt8.toInt32)] ∧ l.length ≤ 2 := ⟨_, rfl, Nat.le_of_ble_eq_true rfl⟩
    have yq5 : Arv Z T578.heap o3578 kd3578 .byte (Int32.ofNat q5.length) (q5.map Value.int) (.int 0) := by rw [e5]; exact q578_3
    by_cases hx : (0 : Int32) < p0
    · refine g_iloadN C X578 at_89 90 rfl ?_
      refine g_iloadN C X578 at_90 91 rfl ?_
      refine g_aload C X578 at_91 93 rfl rfl ?_
      refine g_callSH C X578 hS0 hk578 hEL H_578 (w_28 hw) (w_29 hw) (w_30 hw) (w_31 hw) at_93 [(.int p0), (.int p1), (.ref b563)] [] 0 (rm6_gt hw Z578 hEL q578_0 q578_1 q578_2 yq5 f586 f587 f588 f589 f584 hcs hx h5) pd_37 rfl 96 (fun u593 T593 L593 C593 X593 hQ593 hS593 A593 => ?_)
      obtain ⟨o4593, o3593, kd3593, rfl, Nq593, szo4593, szo3593, Kq593, q593_0, q593_1, q593_2, q593_3⟩ := hQ593
      have N593 := Fr.app N578 Nq593
      have f602 := Sta.keepN f584 Kq593 all0
      have f603 := Sta.keepN f585 Kq593 all0
      have f608 := q578_0.keep Kq593
      have f609 := q578_1.keep Kq593 nin0
      have f610 := q578_2.keep Kq593 nin0
      have f611 := yq5.keep Kq593 nin0
      have Z593 := Nat.le_trans Z578 Kq593.1
      have H_593 := A593.1
      have R_593 := R_578.trans A593
      refine ret1 ?_
      refine g_astore C593 X593 at_96 98 rfl (ls' := #[iv p0, iv p1, iv p2, iv p3, rv b1, rv b27, iv 2, rv b563, rv o4593, uu, uu, uu, uu, uu, uu, uu, uu, uu, uu, uu, uu, uu]) rfl ?_
      obtain ⟨n1, hn1⟩ : ∃ n : Nat, p0.toInt.natAbs = n := ⟨_, rfl⟩
      obtain ⟨n2, hn2⟩ : ∃ n : Nat, p1.toInt.natAbs = n := ⟨_, rfl⟩
      obtain ⟨tx, etx⟩ : ∃ l : List Int32, l = ((((((([] : List Int32) ++ ([108, 105, 110, 101, 32] : List Int32)) ++ decI p0) ++ ([44, 32, 99, 111, 108, 117, 109, 110, 32] : List Int32)) ++ decI p1) ++ ([58, 32] : List Int32)) ++ q5) := ⟨_, rfl⟩
      have ytx : Arv Z T593.heap o3593 kd3593 .byte (Int32.ofNat tx.length) (tx.map Value.int) (.int 0) := by rw [etx]; exact q593_3
      have d1 := dg_pos n1
      have d2 := dg_pos n2
      refine g_aload C593 X593 at_98 100 rfl rfl ?_
      refine g_ifnonnullY C593 X593 at_100 105 ?_
      refine g_iloadN C593 X593 at_105 106 rfl ?_
      refine g_if_gt C593 X593 at_106 117 109 (fun hc106 => ?_) (fun hc106 => absurd hx hc106)
      refine g_iloadN C593 X593 at_117 118 rfl ?_
      refine g_i2l C593 X593 at_118 119 ?_
      refine g_lstore C593 X593 at_119 121 (w := p0.toInt64) rfl (ls' := #[iv p0, iv p1, iv p2, iv p3, rv b1, rv b27, iv 2, rv b563, rv o4593, jv p0.toInt64, sd, uu, uu, uu, uu, uu, uu, uu, uu, uu, uu, uu]) rfl ?_
      refine g_lload C593 X593 at_121 123 rfl ?_
      refine g_callS0 C593 X593 (b_22 hw) at_123 [(.long p0.toInt64)] [] 0 (rm37 hw Z593) N593 pd_38 rfl 126 (fun T612 _ X612 N612 e612 => ?_)
      rw [len_eq (i64p (posn hx) hn1)]
      refine g_istore C593 X612 at_126 128 (w := (Int32.ofNat (dg n1))) rfl (ls' := #[iv p0, iv p1, iv p2, iv p3, rv b1, rv b27, iv 2, rv b563, rv o4593, jv p0.toInt64, sd, iv (Int32.ofNat (dg n1)), uu, uu, uu, uu, uu, uu, uu, uu, uu, uu]) rfl ?_
      refine g_iloadN C593 X612 at_128 129 rfl ?_
      refine g_if_ge C593 X612 at_129 136 132 (fun hc129 => ?_) (fun hc129 => ?_)
      · refine g_iconst C593 X612 at_136 137 (v := 0) rfl ?_
        refine g_istore C593 X612 at_137 139 (w := 0) rfl (ls' := #[iv p0, iv p1, iv p2, iv p3, rv b1, rv b27, iv 2, rv b563, rv o4593, jv p0.toInt64, sd, iv (Int32.ofNat (dg n1)), iv 0, uu, uu, uu, uu, uu, uu, uu, uu, uu]) rfl ?_
        refine g_iload C593 X612 at_139 141 rfl ?_
        refine g_if_eq C593 X612 at_141 150 144 (fun hc141 => ?_) (fun hc141 => absurd hc141 (by decide))
        refine g_iloadN C593 X612 at_150 151 rfl ?_
        refine g_i2l C593 X612 at_151 152 ?_
        refine g_lstore C593 X612 at_152 154 (w := p1.toInt64) rfl (ls' := #[iv p0, iv p1, iv p2, iv p3, rv b1, rv b27, iv 2, rv b563, rv o4593, jv p0.toInt64, sd, iv (Int32.ofNat (dg n1)), iv 0, jv p1.toInt64, sd, uu, uu, uu, uu, uu, uu, uu]) rfl ?_
        refine g_lload C593 X612 at_154 156 rfl ?_
        refine g_callS0 C593 X612 (b_22 hw) at_156 [(.long p1.toInt64)] [] 0 (rm37 hw Z593) N612 pd_38 e612 159 (fun T613 _ X613 N613 e613 => ?_)
        rw [len_eq (i64p hc129 hn2)]
        obtain ⟨htl, h45, ht0, ht1, ht2, ht3, ht4, ht5, ht6⟩ := msg_of hx hn1 hn2 (sgn_p hc129) (sg := 0) rfl h5 (by decide) etx
        refine g_istore C593 X613 at_159 161 (w := (Int32.ofNat (dg n2))) rfl (ls' := #[iv p0, iv p1, iv p2, iv p3, rv b1, rv b27, iv 2, rv b563, rv o4593, jv p0.toInt64, sd, iv (Int32.ofNat (dg n1)), iv 0, jv p1.toInt64, sd, iv (Int32.ofNat (dg n2)), uu, uu, uu, uu, uu, uu]) rfl ?_
        refine g_iload C593 X613 at_161 163 rfl ?_
        refine g_if_eq C593 X613 at_163 170 166 (fun hc163 => ?_) (fun hc163 => absurd hc163 (by decide))
        refine g_iconst C593 X613 at_170 171 (v := 0) rfl ?_
        refine g_istore C593 X613 at_171 173 (w := 0) rfl (ls' := #[iv p0, iv p1, iv p2, iv p3, rv b1, rv b27, iv 2, rv b563, rv o4593, jv p0.toInt64, sd, iv (Int32.ofNat (dg n1)), iv 0, jv p1.toInt64, sd, iv (Int32.ofNat (dg n2)), iv 0, uu, uu, uu, uu, uu]) rfl ?_
        refine g_iconst C593 X613 at_173 174 (v := 5) rfl ?_
        refine g_iload C593 X613 at_174 176 rfl ?_
        refine g_iadd C593 X613 at_176 177 ?_
        rw [show ((5 : Int32) + (Int32.ofNat (dg n1))) = (Int32.ofNat (5 + dg n1)) from i_add _ _]
        refine g_istore C593 X613 at_177 179 (w := (Int32.ofNat (5 + dg n1))) rfl (ls' := #[iv p0, iv p1, iv p2, iv p3, rv b1, rv b27, iv 2, rv b563, rv o4593, jv p0.toInt64, sd, iv (Int32.ofNat (dg n1)), iv 0, jv p1.toInt64, sd, iv (Int32.ofNat (dg n2)), iv 0, iv (Int32.ofNat (5 + dg n1)), uu, uu, uu, uu]) rfl ?_
        refine g_iload C593 X613 at_179 181 rfl ?_
        refine g_bipush C593 X613 at_181 183 (v := 9) rfl ?_
        refine g_iadd C593 X613 at_183 184 ?_
        rw [show ((Int32.ofNat (5 + dg n1)) + (9 : Int32)) = (Int32.ofNat (5 + dg n1 + 9)) from i_add _ _]
        refine g_istore C593 X613 at_184 186 (w := (Int32.ofNat (5 + dg n1 + 9))) rfl (ls' := #[iv p0, iv p1, iv p2, iv p3, rv b1, rv b27, iv 2, rv b563, rv o4593, jv p0.toInt64, sd, iv (Int32.ofNat (dg n1)), iv 0, jv p1.toInt64, sd, iv (Int32.ofNat (dg n2)), iv 0, iv (Int32.ofNat (5 + dg n1)), iv (Int32.ofNat (5 + dg n1 + 9)), uu, uu, uu]) rfl ?_
        refine g_iload C593 X613 at_186 188 rfl ?_
        refine g_iload C593 X613 at_188 190 rfl ?_
        refine g_iadd C593 X613 at_190 191 ?_
        rw [show ((Int32.ofNat (5 + dg n1 + 9)) + (0 : Int32)) = (Int32.ofNat (5 + dg n1 + 9 + 0)) from i_add _ _]
        refine g_istore C593 X613 at_191 193 (w := (Int32.ofNat (5 + dg n1 + 9 + 0))) rfl (ls' := #[iv p0, iv p1, iv p2, iv p3, rv b1, rv b27, iv 2, rv b563, rv o4593, jv p0.toInt64, sd, iv (Int32.ofNat (dg n1)), iv 0, jv p1.toInt64, sd, iv (Int32.ofNat (dg n2)), iv 0, iv (Int32.ofNat (5 + dg n1)), iv (Int32.ofNat (5 + dg n1 + 9)), iv (Int32.ofNat (5 + dg n1 + 9 + 0)), uu, uu]) rfl ?_
        refine g_iload C593 X613 at_193 195 rfl ?_
        refine g_iload C593 X613 at_195 197 rfl ?_
        refine g_iadd C593 X613 at_197 198 ?_
        rw [show ((Int32.ofNat (5 + dg n1 + 9 + 0)) + (Int32.ofNat (dg n2))) = (Int32.ofNat (5 + dg n1 + 9 + 0 + dg n2)) from i_add _ _]
        refine g_istore C593 X613 at_198 200 (w := (Int32.ofNat (5 + dg n1 + 9 + 0 + dg n2))) rfl (ls' := #[iv p0, iv p1, iv p2, iv p3, rv b1, rv b27, iv 2, rv b563, rv o4593, jv p0.toInt64, sd, iv (Int32.ofNat (dg n1)), iv 0, jv p1.toInt64, sd, iv (Int32.ofNat (dg n2)), iv 0, iv (Int32.ofNat (5 + dg n1)), iv (Int32.ofNat (5 + dg n1 + 9)), iv (Int32.ofNat (5 + dg n1 + 9 + 0)), iv (Int32.ofNat (5 + dg n1 + 9 + 0 + dg n2)), uu]) rfl ?_
        refine g_iload C593 X613 at_200 202 rfl ?_
        refine g_iconst C593 X613 at_202 203 (v := 2) rfl ?_
        refine g_iadd C593 X613 at_203 204 ?_
        rw [show ((Int32.ofNat (5 + dg n1 + 9 + 0 + dg n2)) + (2 : Int32)) = (Int32.ofNat (5 + dg n1 + 9 + 0 + dg n2 + 2)) from i_add _ _]
        refine g_istore C593 X613 at_204 206 (w := (Int32.ofNat (5 + dg n1 + 9 + 0 + dg n2 + 2))) rfl (ls' := #[iv p0, iv p1, iv p2, iv p3, rv b1, rv b27, iv 2, rv b563, rv o4593, jv p0.toInt64, sd, iv (Int32.ofNat (dg n1)), iv 0, jv p1.toInt64, sd, iv (Int32.ofNat (dg n2)), iv 0, iv (Int32.ofNat (5 + dg n1)), iv (Int32.ofNat (5 + dg n1 + 9)), iv (Int32.ofNat (5 + dg n1 + 9 + 0)), iv (Int32.ofNat (5 + dg n1 + 9 + 0 + dg n2)), iv (Int32.ofNat (5 + dg n1 + 9 + 0 + dg n2 + 2))]) rfl ?_
        refine g_aload C593 X613 at_206 208 rfl rfl ?_
        refine g_callV0 C593 X613 (b_18 hw) q593_0 at_208 [] [] 0 (rm12_s hw Z593 q593_0 q593_1 q593_2 ytx f602 hcs) N613 pd_8 e613 211 (fun T614 _ X614 N614 e614 => ?_)
        refine g_iload C593 X614 at_211 213 rfl ?_
        refine g_aload C593 X614 at_213 215 rfl rfl ?_
        refine g_callV0 C593 X614 (b_18 hw) f608 at_215 [] [(.int (Int32.ofNat (5 + dg n1 + 9 + 0 + dg n2 + 2))), (.int (Int32.ofNat tx.length))] 2 (rm12_s hw Z593 f608 f609 f610 f611 f602 hcs) N614 pd_8 e614 218 (fun T615 _ X615 N615 e615 => ?_)
        refine g_iadd C593 X615 at_218 219 ?_
        refine g_icmp_eq C593 X615 at_219 224 222 (fun hc219 => ?_) (fun hc219 => absurd (by rw [i_add, ← htl]) hc219)
        refine g_aload C593 X615 at_224 226 rfl rfl ?_
        refine g_iconst C593 X615 at_226 227 (v := 0) rfl ?_
        refine g_ldcCH C593 X615 (n := 20) (z := (5 : Int32)) (vs := [(.int 108), (.int 105), (.int 110), (.int 101), (.int 32)]) (hw _ (List.mem_of_getElem? (i := 195) rfl)) (strAtoms hw) e615 hS593 (Nat.le_refl _) hEL (by decide) H_593 ⟨by decide, rfl⟩ (by decide) rfl at_227 229 (by decide) (by decide) (by decide) (by decide) (fun b616 T616 h616 k616 bb616 ki616 C616 X616 e616 E616 hS616 hk616 fe616 fc616 fv616 fa616 A616 sn616 => ?_)
        have f617 := f602.ext E616
        have f618 := f603.ext E616
        have f623 := f608.ext E616
        have f624 := f609.ext E616
        have f625 := f610.ext E616
        have f626 := f611.ext E616
        have f627 := q593_0.ext E616
        have f628 := q593_1.ext E616
        have f629 := q593_2.ext E616
        have f630 := ytx.ext E616
        have H_616 := A616.1
        have R_616 := R_593.trans A616
        have Z616 := Nat.le_trans Z593 E616.1
        have f631 : Arv Z h616 bb616 ki616 .byte (Int32.ofNat ([108, 105, 110, 101, 32] : List Int32).length) (([108, 105, 110, 101, 32] : List Int32).map Value.int) (.int 0) := fa616
        refine g_callS0 C616 X616 (b_23 hw) at_229 [(.ref o4593), (.int 0), (.ref b616)] [] 0 (rm38 hw Z616 f627 f628 f629 f630 fe616 fv616 fc616 f631 f617 f618 hcs hwf (show Int32.ofNat 0 = _ from rfl) ht0 (show 0 + 5 ≤ tx.length from by omega) h45) N615 pd_39 e616 232 (fun T632 _ X632 N632 e632 => ?_)
        refine g_if_eq C616 X632 at_232 319 235 (fun hc232 => absurd hc232 (by decide)) (fun hc232 => ?_)
        refine g_aload C616 X632 at_235 237 rfl rfl ?_
        refine g_iconst C616 X632 at_237 238 (v := 5) rfl ?_
        refine g_lload C616 X632 at_238 240 rfl ?_
        refine g_iload C616 X632 at_240 242 rfl ?_
        refine g_callS C616 X632 (w_223 hw) (w_224 hw) (w_190 hw) (w_225 hw) at_242 [(.ref o4593), (.int 5), (.long p0.toInt64), (.int (Int32.ofNat (dg n1)))] [] 0 (rm45 hw Z616 f627 f628 f629 f630 f617 f618 hcs hwf (show Int32.ofNat 5 = _ from rfl) (i64p (posn hx) hn1) rfl (hn1 ▸ natAbs_le _) ht1 (by omega) h45) pd_40 e632 245 (fun u633 T633 L633 X633 hQ633 => ?_)
        obtain ⟨rfl, Nq633, Kq633⟩ := hQ633
        have N633 := Fr.app N632 Nq633
        have f634 := Sta.keepN f617 Kq633 all0
        have f635 := Sta.keepN f618 Kq633 all0
        have f640 := f623.keep Kq633
        have f641 := f624.keep Kq633 nin0
        have f642 := f625.keep Kq633 nin0
        have f643 := f626.keep Kq633 nin0
        have f644 := f627.keep Kq633
        have f645 := f628.keep Kq633 nin0
        have f646 := f629.keep Kq633 nin0
        have f647 := f630.keep Kq633 nin0
        have Z633 := Nat.le_trans Z616 Kq633.1
        have hk633 := Nat.le_trans hk616 Kq633.1
        have H_633 := CHv.keep Kq633 all0 H_616
        have R_633 := R_616.trans (CHr.keep Kq633 all0 H_616)
        refine ret1 ?_
        refine g_if_eq C616 X633 at_245 319 248 (fun hc245 => absurd hc245 (by decide)) (fun hc245 => ?_)
        refine g_aload C616 X633 at_248 250 rfl rfl ?_
        refine g_iload C616 X633 at_250 252 rfl ?_
        refine g_ldcCH C616 X633 (n := 36) (z := (9 : Int32)) (vs := [(.int 44), (.int 32), (.int 99), (.int 111), (.int 108), (.int 117), (.int 109), (.int 110), (.int 32)]) (hw _ (List.mem_of_getElem? (i := 240) rfl)) (strAtoms hw) rfl hS616 hk633 hEL (by decide) H_633 ⟨by decide, rfl⟩ (by decide) rfl at_252 254 (by decide) (by decide) (by decide) (by decide) (fun b652 T652 h652 k652 bb652 ki652 C652 X652 e652 E652 hS652 hk652 fe652 fc652 fv652 fa652 A652 sn652 => ?_)
        have f653 := f634.ext E652
        have f654 := f635.ext E652
        have f659 := f640.ext E652
        have f660 := f641.ext E652
        have f661 := f642.ext E652
        have f662 := f643.ext E652
        have f663 := f644.ext E652
        have f664 := f645.ext E652
        have f665 := f646.ext E652
        have f666 := f647.ext E652
        have H_652 := A652.1
        have R_652 := R_633.trans A652
        have Z652 := Nat.le_trans Z633 E652.1
        have f671 : Arv Z h652 bb652 ki652 .byte (Int32.ofNat ([44, 32, 99, 111, 108, 117, 109, 110, 32] : List Int32).length) (([44, 32, 99, 111, 108, 117, 109, 110, 32] : List Int32).map Value.int) (.int 0) := fa652
        refine g_callS0 C652 X652 (b_23 hw) at_254 [(.ref o4593), (.int (Int32.ofNat (5 + dg n1))), (.ref b652)] [] 0 (rm38 hw Z652 f663 f664 f665 f666 fe652 fv652 fc652 f671 f653 f654 hcs hwf (show Int32.ofNat (5 + dg n1) = _ from rfl) ht2 (show (5 + dg n1) + 9 ≤ tx.length from by omega) h45) N633 pd_39 e652 257 (fun T672 _ X672 N672 e672 => ?_)
        refine g_if_eq C652 X672 at_257 319 260 (fun hc257 => absurd hc257 (by decide)) (fun hc257 => ?_)
        refine g_iload C652 X672 at_260 262 rfl ?_
        refine g_if_eq C652 X672 at_262 277 265 (fun hc262 => ?_) (fun hc262 => absurd hc262 (by decide))
        refine g_aload C652 X672 at_277 279 rfl rfl ?_
        refine g_iload C652 X672 at_279 281 rfl ?_
        refine g_lload C652 X672 at_281 283 rfl ?_
        refine g_iload C652 X672 at_283 285 rfl ?_
        refine g_callS C652 X672 (w_223 hw) (w_224 hw) (w_190 hw) (w_225 hw) at_285 [(.ref o4593), (.int (Int32.ofNat (5 + dg n1 + 9 + 0))), (.long p1.toInt64), (.int (Int32.ofNat (dg n2)))] [] 0 (rm45 hw Z652 f663 f664 f665 f666 f653 f654 hcs hwf (show Int32.ofNat (5 + dg n1 + 9 + 0) = _ from rfl) (i64p hc129 hn2) rfl (hn2 ▸ natAbs_le _) ht4 (by omega) h45) pd_40 e672 288 (fun u673 T673 L673 X673 hQ673 => ?_)
        obtain ⟨rfl, Nq673, Kq673⟩ := hQ673
        have N673 := Fr.app N672 Nq673
        have f674 := Sta.keepN f653 Kq673 all0
        have f675 := Sta.keepN f654 Kq673 all0
        have f680 := f659.keep Kq673
        have f681 := f660.keep Kq673 nin0
        have f682 := f661.keep Kq673 nin0
        have f683 := f662.keep Kq673 nin0
        have f684 := f663.keep Kq673
        have f685 := f664.keep Kq673 nin0
        have f686 := f665.keep Kq673 nin0
        have f687 := f666.keep Kq673 nin0
        have Z673 := Nat.le_trans Z652 Kq673.1
        have hk673 := Nat.le_trans hk652 Kq673.1
        have H_673 := CHv.keep Kq673 all0 H_652
        have R_673 := R_652.trans (CHr.keep Kq673 all0 H_652)
        refine ret1 ?_
        refine g_if_eq C652 X673 at_288 319 291 (fun hc288 => absurd hc288 (by decide)) (fun hc288 => ?_)
        refine g_aload C652 X673 at_291 293 rfl rfl ?_
        refine g_iload C652 X673 at_293 295 rfl ?_
        refine g_ldcCH C652 X673 (n := 8) (z := (2 : Int32)) (vs := [(.int 58), (.int 32)]) (hw _ (List.mem_of_getElem? (i := 241) rfl)) (strAtoms hw) rfl hS652 hk673 hEL (by decide) H_673 ⟨by decide, rfl⟩ (by decide) rfl at_295 297 (by decide) (by decide) (by decide) (by decide) (fun b696 T696 h696 k696 bb696 ki696 C696 X696 e696 E696 hS696 hk696 fe696 fc696 fv696 fa696 A696 sn696 => ?_)
        have f697 := f674.ext E696
        have f698 := f675.ext E696
        have f703 := f680.ext E696
        have f704 := f681.ext E696
        have f705 := f682.ext E696
        have f706 := f683.ext E696
        have f707 := f684.ext E696
        have f708 := f685.ext E696
        have f709 := f686.ext E696
        have f710 := f687.ext E696
        have H_696 := A696.1
        have R_696 := R_673.trans A696
        have Z696 := Nat.le_trans Z673 E696.1
        have f719 : Arv Z h696 bb696 ki696 .byte (Int32.ofNat ([58, 32] : List Int32).length) (([58, 32] : List Int32).map Value.int) (.int 0) := fa696
        refine g_callS0 C696 X696 (b_23 hw) at_297 [(.ref o4593), (.int (Int32.ofNat (5 + dg n1 + 9 + 0 + dg n2))), (.ref b696)] [] 0 (rm38 hw Z696 f707 f708 f709 f710 fe696 fv696 fc696 f719 f697 f698 hcs hwf (show Int32.ofNat (5 + dg n1 + 9 + 0 + dg n2) = _ from rfl) ht5 (show (5 + dg n1 + 9 + 0 + dg n2) + 2 ≤ tx.length from by omega) h45) N673 pd_39 e696 300 (fun T720 _ X720 N720 e720 => ?_)
        refine g_if_eq C696 X720 at_300 319 303 (fun hc300 => absurd hc300 (by decide)) (fun hc300 => ?_)
        refine g_aload C696 X720 at_303 305 rfl rfl ?_
        refine g_iload C696 X720 at_305 307 rfl ?_
        refine g_aload C696 X720 at_307 309 rfl rfl ?_
        refine g_callS0 C696 X720 (b_23 hw) at_309 [(.ref o4593), (.int (Int32.ofNat (5 + dg n1 + 9 + 0 + dg n2 + 2))), (.ref b563)] [] 0 (rm38 hw Z696 f707 f708 f709 f710 f703 f704 f705 f706 f697 f698 hcs hwf rfl ht6 (by omega) h45) N720 pd_39 e720 312 (fun T721 _ X721 N721 e721 => ?_)
        refine g_if_eq C696 X721 at_312 319 315 (fun hc312 => absurd hc312 (by decide)) (fun hc312 => ?_)
        refine g_iconst C696 X721 at_315 316 (v := 1) rfl ?_
        refine g_goto C696 X721 at_316 320 ?_
        exact g_retNH C696 X721 K hS696 hk696 hEL H_696 R_696 (by simp) at_320 (by decide) (by decide) e721 ⟨rfl, N721⟩
      · refine g_iconst C593 X612 at_132 133 (v := 1) rfl ?_
        refine g_goto C593 X612 at_133 137 ?_
        refine g_istore C593 X612 at_137 139 (w := 1) rfl (ls' := #[iv p0, iv p1, iv p2, iv p3, rv b1, rv b27, iv 2, rv b563, rv o4593, jv p0.toInt64, sd, iv (Int32.ofNat (dg n1)), iv 1, uu, uu, uu, uu, uu, uu, uu, uu, uu]) rfl ?_
        refine g_iload C593 X612 at_139 141 rfl ?_
        refine g_if_eq C593 X612 at_141 150 144 (fun hc141 => absurd hc141 (by decide)) (fun hc141 => ?_)
        refine g_iloadN C593 X612 at_144 145 rfl ?_
        refine g_i2l C593 X612 at_145 146 ?_
        refine g_lneg C593 X612 at_146 147 ?_
        refine g_goto C593 X612 at_147 152 ?_
        refine g_lstore C593 X612 at_152 154 (w := (-p1.toInt64)) rfl (ls' := #[iv p0, iv p1, iv p2, iv p3, rv b1, rv b27, iv 2, rv b563, rv o4593, jv p0.toInt64, sd, iv (Int32.ofNat (dg n1)), iv 1, jv (-p1.toInt64), sd, uu, uu, uu, uu, uu, uu, uu]) rfl ?_
        refine g_lload C593 X612 at_154 156 rfl ?_
        refine g_callS0 C593 X612 (b_22 hw) at_156 [(.long (-p1.toInt64))] [] 0 (rm37 hw Z593) N612 pd_38 e612 159 (fun T722 _ X722 N722 e722 => ?_)
        rw [len_eq (i64n hc129 hn2)]
        obtain ⟨htl, h45, ht0, ht1, ht2, ht3, ht4, ht5, ht6⟩ := msg_of hx hn1 hn2 (sgn_n hc129) (sg := 1) rfl h5 (by decide) etx
        refine g_istore C593 X722 at_159 161 (w := (Int32.ofNat (dg n2))) rfl (ls' := #[iv p0, iv p1, iv p2, iv p3, rv b1, rv b27, iv 2, rv b563, rv o4593, jv p0.toInt64, sd, iv (Int32.ofNat (dg n1)), iv 1, jv (-p1.toInt64), sd, iv (Int32.ofNat (dg n2)), uu, uu, uu, uu, uu, uu]) rfl ?_
        refine g_iload C593 X722 at_161 163 rfl ?_
        refine g_if_eq C593 X722 at_163 170 166 (fun hc163 => absurd hc163 (by decide)) (fun hc163 => ?_)
        refine g_iconst C593 X722 at_166 167 (v := 1) rfl ?_
        refine g_goto C593 X722 at_167 171 ?_
        refine g_istore C593 X722 at_171 173 (w := 1) rfl (ls' := #[iv p0, iv p1, iv p2, iv p3, rv b1, rv b27, iv 2, rv b563, rv o4593, jv p0.toInt64, sd, iv (Int32.ofNat (dg n1)), iv 1, jv (-p1.toInt64), sd, iv (Int32.ofNat (dg n2)), iv 1, uu, uu, uu, uu, uu]) rfl ?_
        refine g_iconst C593 X722 at_173 174 (v := 5) rfl ?_
        refine g_iload C593 X722 at_174 176 rfl ?_
        refine g_iadd C593 X722 at_176 177 ?_
        rw [show ((5 : Int32) + (Int32.ofNat (dg n1))) = (Int32.ofNat (5 + dg n1)) from i_add _ _]
        refine g_istore C593 X722 at_177 179 (w := (Int32.ofNat (5 + dg n1))) rfl (ls' := #[iv p0, iv p1, iv p2, iv p3, rv b1, rv b27, iv 2, rv b563, rv o4593, jv p0.toInt64, sd, iv (Int32.ofNat (dg n1)), iv 1, jv (-p1.toInt64), sd, iv (Int32.ofNat (dg n2)), iv 1, iv (Int32.ofNat (5 + dg n1)), uu, uu, uu, uu]) rfl ?_
        refine g_iload C593 X722 at_179 181 rfl ?_
        refine g_bipush C593 X722 at_181 183 (v := 9) rfl ?_
        refine g_iadd C593 X722 at_183 184 ?_
        rw [show ((Int32.ofNat (5 + dg n1)) + (9 : Int32)) = (Int32.ofNat (5 + dg n1 + 9)) from i_add _ _]
        refine g_istore C593 X722 at_184 186 (w := (Int32.ofNat (5 + dg n1 + 9))) rfl (ls' := #[iv p0, iv p1, iv p2, iv p3, rv b1, rv b27, iv 2, rv b563, rv o4593, jv p0.toInt64, sd, iv (Int32.ofNat (dg n1)), iv 1, jv (-p1.toInt64), sd, iv (Int32.ofNat (dg n2)), iv 1, iv (Int32.ofNat (5 + dg n1)), iv (Int32.ofNat (5 + dg n1 + 9)), uu, uu, uu]) rfl ?_
        refine g_iload C593 X722 at_186 188 rfl ?_
        refine g_iload C593 X722 at_188 190 rfl ?_
        refine g_iadd C593 X722 at_190 191 ?_
        rw [show ((Int32.ofNat (5 + dg n1 + 9)) + (1 : Int32)) = (Int32.ofNat (5 + dg n1 + 9 + 1)) from i_add _ _]
        refine g_istore C593 X722 at_191 193 (w := (Int32.ofNat (5 + dg n1 + 9 + 1))) rfl (ls' := #[iv p0, iv p1, iv p2, iv p3, rv b1, rv b27, iv 2, rv b563, rv o4593, jv p0.toInt64, sd, iv (Int32.ofNat (dg n1)), iv 1, jv (-p1.toInt64), sd, iv (Int32.ofNat (dg n2)), iv 1, iv (Int32.ofNat (5 + dg n1)), iv (Int32.ofNat (5 + dg n1 + 9)), iv (Int32.ofNat (5 + dg n1 + 9 + 1)), uu, uu]) rfl ?_
        refine g_iload C593 X722 at_193 195 rfl ?_
        refine g_iload C593 X722 at_195 197 rfl ?_
        refine g_iadd C593 X722 at_197 198 ?_
        rw [show ((Int32.ofNat (5 + dg n1 + 9 + 1)) + (Int32.ofNat (dg n2))) = (Int32.ofNat (5 + dg n1 + 9 + 1 + dg n2)) from i_add _ _]
        refine g_istore C593 X722 at_198 200 (w := (Int32.ofNat (5 + dg n1 + 9 + 1 + dg n2))) rfl (ls' := #[iv p0, iv p1, iv p2, iv p3, rv b1, rv b27, iv 2, rv b563, rv o4593, jv p0.toInt64, sd, iv (Int32.ofNat (dg n1)), iv 1, jv (-p1.toInt64), sd, iv (Int32.ofNat (dg n2)), iv 1, iv (Int32.ofNat (5 + dg n1)), iv (Int32.ofNat (5 + dg n1 + 9)), iv (Int32.ofNat (5 + dg n1 + 9 + 1)), iv (Int32.ofNat (5 + dg n1 + 9 + 1 + dg n2)), uu]) rfl ?_
        refine g_iload C593 X722 at_200 202 rfl ?_
        refine g_iconst C593 X722 at_202 203 (v := 2) rfl ?_
        refine g_iadd C593 X722 at_203 204 ?_
        rw [show ((Int32.ofNat (5 + dg n1 + 9 + 1 + dg n2)) + (2 : Int32)) = (Int32.ofNat (5 + dg n1 + 9 + 1 + dg n2 + 2)) from i_add _ _]
        refine g_istore C593 X722 at_204 206 (w := (Int32.ofNat (5 + dg n1 + 9 + 1 + dg n2 + 2))) rfl (ls' := #[iv p0, iv p1, iv p2, iv p3, rv b1, rv b27, iv 2, rv b563, rv o4593, jv p0.toInt64, sd, iv (Int32.ofNat (dg n1)), iv 1, jv (-p1.toInt64), sd, iv (Int32.ofNat (dg n2)), iv 1, iv (Int32.ofNat (5 + dg n1)), iv (Int32.ofNat (5 + dg n1 + 9)), iv (Int32.ofNat (5 + dg n1 + 9 + 1)), iv (Int32.ofNat (5 + dg n1 + 9 + 1 + dg n2)), iv (Int32.ofNat (5 + dg n1 + 9 + 1 + dg n2 + 2))]) rfl ?_
        refine g_aload C593 X722 at_206 208 rfl rfl ?_
        refine g_callV0 C593 X722 (b_18 hw) q593_0 at_208 [] [] 0 (rm12_s hw Z593 q593_0 q593_1 q593_2 ytx f602 hcs) N722 pd_8 e722 211 (fun T723 _ X723 N723 e723 => ?_)
        refine g_iload C593 X723 at_211 213 rfl ?_
        refine g_aload C593 X723 at_213 215 rfl rfl ?_
        refine g_callV0 C593 X723 (b_18 hw) f608 at_215 [] [(.int (Int32.ofNat (5 + dg n1 + 9 + 1 + dg n2 + 2))), (.int (Int32.ofNat tx.length))] 2 (rm12_s hw Z593 f608 f609 f610 f611 f602 hcs) N723 pd_8 e723 218 (fun T724 _ X724 N724 e724 => ?_)
        refine g_iadd C593 X724 at_218 219 ?_
        refine g_icmp_eq C593 X724 at_219 224 222 (fun hc219 => ?_) (fun hc219 => absurd (by rw [i_add, ← htl]) hc219)
        refine g_aload C593 X724 at_224 226 rfl rfl ?_
        refine g_iconst C593 X724 at_226 227 (v := 0) rfl ?_
        refine g_ldcCH C593 X724 (n := 20) (z := (5 : Int32)) (vs := [(.int 108), (.int 105), (.int 110), (.int 101), (.int 32)]) (hw _ (List.mem_of_getElem? (i := 195) rfl)) (strAtoms hw) e724 hS593 (Nat.le_refl _) hEL (by decide) H_593 ⟨by decide, rfl⟩ (by decide) rfl at_227 229 (by decide) (by decide) (by decide) (by decide) (fun b725 T725 h725 k725 bb725 ki725 C725 X725 e725 E725 hS725 hk725 fe725 fc725 fv725 fa725 A725 sn725 => ?_)
        have f726 := f602.ext E725
        have f727 := f603.ext E725
        have f732 := f608.ext E725
        have f733 := f609.ext E725
        have f734 := f610.ext E725
        have f735 := f611.ext E725
        have f736 := q593_0.ext E725
        have f737 := q593_1.ext E725
        have f738 := q593_2.ext E725
        have f739 := ytx.ext E725
        have H_725 := A725.1
        have R_725 := R_593.trans A725
        have Z725 := Nat.le_trans Z593 E725.1
        have f740 : Arv Z h725 bb725 ki725 .byte (Int32.ofNat ([108, 105, 110, 101, 32] : List Int32).length) (([108, 105, 110, 101, 32] : List Int32).map Value.int) (.int 0) := fa725
        refine g_callS0 C725 X725 (b_23 hw) at_229 [(.ref o4593), (.int 0), (.ref b725)] [] 0 (rm38 hw Z725 f736 f737 f738 f739 fe725 fv725 fc725 f740 f726 f727 hcs hwf (show Int32.ofNat 0 = _ from rfl) ht0 (show 0 + 5 ≤ tx.length from by omega) h45) N724 pd_39 e725 232 (fun T741 _ X741 N741 e741 => ?_)
        refine g_if_eq C725 X741 at_232 319 235 (fun hc232 => absurd hc232 (by decide)) (fun hc232 => ?_)
        refine g_aload C725 X741 at_235 237 rfl rfl ?_
        refine g_iconst C725 X741 at_237 238 (v := 5) rfl ?_
        refine g_lload C725 X741 at_238 240 rfl ?_
        refine g_iload C725 X741 at_240 242 rfl ?_
        refine g_callS C725 X741 (w_223 hw) (w_224 hw) (w_190 hw) (w_225 hw) at_242 [(.ref o4593), (.int 5), (.long p0.toInt64), (.int (Int32.ofNat (dg n1)))] [] 0 (rm45 hw Z725 f736 f737 f738 f739 f726 f727 hcs hwf (show Int32.ofNat 5 = _ from rfl) (i64p (posn hx) hn1) rfl (hn1 ▸ natAbs_le _) ht1 (by omega) h45) pd_40 e741 245 (fun u742 T742 L742 X742 hQ742 => ?_)
        obtain ⟨rfl, Nq742, Kq742⟩ := hQ742
        have N742 := Fr.app N741 Nq742
        have f743 := Sta.keepN f726 Kq742 all0
        have f744 := Sta.keepN f727 Kq742 all0
        have f749 := f732.keep Kq742
        have f750 := f733.keep Kq742 nin0
        have f751 := f734.keep Kq742 nin0
        have f752 := f735.keep Kq742 nin0
        have f753 := f736.keep Kq742
        have f754 := f737.keep Kq742 nin0
        have f755 := f738.keep Kq742 nin0
        have f756 := f739.keep Kq742 nin0
        have Z742 := Nat.le_trans Z725 Kq742.1
        have hk742 := Nat.le_trans hk725 Kq742.1
        have H_742 := CHv.keep Kq742 all0 H_725
        have R_742 := R_725.trans (CHr.keep Kq742 all0 H_725)
        refine ret1 ?_
        refine g_if_eq C725 X742 at_245 319 248 (fun hc245 => absurd hc245 (by decide)) (fun hc245 => ?_)
        refine g_aload C725 X742 at_248 250 rfl rfl ?_
        refine g_iload C725 X742 at_250 252 rfl ?_
        refine g_ldcCH C725 X742 (n := 36) (z := (9 : Int32)) (vs := [(.int 44), (.int 32), (.int 99), (.int 111), (.int 108), (.int 117), (.int 109), (.int 110), (.int 32)]) (hw _ (List.mem_of_getElem? (i := 240) rfl)) (strAtoms hw) rfl hS725 hk742 hEL (by decide) H_742 ⟨by decide, rfl⟩ (by decide) rfl at_252 254 (by decide) (by decide) (by decide) (by decide) (fun b761 T761 h761 k761 bb761 ki761 C761 X761 e761 E761 hS761 hk761 fe761 fc761 fv761 fa761 A761 sn761 => ?_)
        have f762 := f743.ext E761
        have f763 := f744.ext E761
        have f768 := f749.ext E761
        have f769 := f750.ext E761
        have f770 := f751.ext E761
        have f771 := f752.ext E761
        have f772 := f753.ext E761
        have f773 := f754.ext E761
        have f774 := f755.ext E761
        have f775 := f756.ext E761
        have H_761 := A761.1
        have R_761 := R_742.trans A761
        have Z761 := Nat.le_trans Z742 E761.1
        have f780 : Arv Z h761 bb761 ki761 .byte (Int32.ofNat ([44, 32, 99, 111, 108, 117, 109, 110, 32] : List Int32).length) (([44, 32, 99, 111, 108, 117, 109, 110, 32] : List Int32).map Value.int) (.int 0) := fa761
        refine g_callS0 C761 X761 (b_23 hw) at_254 [(.ref o4593), (.int (Int32.ofNat (5 + dg n1))), (.ref b761)] [] 0 (rm38 hw Z761 f772 f773 f774 f775 fe761 fv761 fc761 f780 f762 f763 hcs hwf (show Int32.ofNat (5 + dg n1) = _ from rfl) ht2 (show (5 + dg n1) + 9 ≤ tx.length from by omega) h45) N742 pd_39 e761 257 (fun T781 _ X781 N781 e781 => ?_)
        refine g_if_eq C761 X781 at_257 319 260 (fun hc257 => absurd hc257 (by decide)) (fun hc257 => ?_)
        refine g_iload C761 X781 at_260 262 rfl ?_
        refine g_if_eq C761 X781 at_262 277 265 (fun hc262 => absurd hc262 (by decide)) (fun hc262 => ?_)
        refine g_aload C761 X781 at_265 267 rfl rfl ?_
        refine g_iload C761 X781 at_267 269 rfl ?_
        refine g_callV0 C761 X781 (b_17 hw) f772 at_269 [(.int (Int32.ofNat (5 + dg n1 + 9)))] [] 0 (rm40_s hw Z761 f772 f773 f774 f775 f762 f763 hcs hwf rfl (by omega) (by omega)) N781 pd_26 e781 272 (fun T782 _ X782 N782 e782 => ?_)
        refine g_bipush C761 X782 at_272 274 (v := 45) rfl ?_
        refine g_icmp_ne C761 X782 at_274 319 277 (fun hc274 => absurd (msg45 (ht3 0 (by decide))) hc274) (fun hc274 => ?_)
        refine g_aload C761 X782 at_277 279 rfl rfl ?_
        refine g_iload C761 X782 at_279 281 rfl ?_
        refine g_lload C761 X782 at_281 283 rfl ?_
        refine g_iload C761 X782 at_283 285 rfl ?_
        refine g_callS C761 X782 (w_223 hw) (w_224 hw) (w_190 hw) (w_225 hw) at_285 [(.ref o4593), (.int (Int32.ofNat (5 + dg n1 + 9 + 1))), (.long (-p1.toInt64)), (.int (Int32.ofNat (dg n2)))] [] 0 (rm45 hw Z761 f772 f773 f774 f775 f762 f763 hcs hwf (show Int32.ofNat (5 + dg n1 + 9 + 1) = _ from rfl) (i64n hc129 hn2) rfl (hn2 ▸ natAbs_le _) ht4 (by omega) h45) pd_40 e782 288 (fun u783 T783 L783 X783 hQ783 => ?_)
        obtain ⟨rfl, Nq783, Kq783⟩ := hQ783
        have N783 := Fr.app N782 Nq783
        have f784 := Sta.keepN f762 Kq783 all0
        have f785 := Sta.keepN f763 Kq783 all0
        have f790 := f768.keep Kq783
        have f791 := f769.keep Kq783 nin0
        have f792 := f770.keep Kq783 nin0
        have f793 := f771.keep Kq783 nin0
        have f794 := f772.keep Kq783
        have f795 := f773.keep Kq783 nin0
        have f796 := f774.keep Kq783 nin0
        have f797 := f775.keep Kq783 nin0
        have Z783 := Nat.le_trans Z761 Kq783.1
        have hk783 := Nat.le_trans hk761 Kq783.1
        have H_783 := CHv.keep Kq783 all0 H_761
        have R_783 := R_761.trans (CHr.keep Kq783 all0 H_761)
        refine ret1 ?_
        refine g_if_eq C761 X783 at_288 319 291 (fun hc288 => absurd hc288 (by decide)) (fun hc288 => ?_)
        refine g_aload C761 X783 at_291 293 rfl rfl ?_
        refine g_iload C761 X783 at_293 295 rfl ?_
        refine g_ldcCH C761 X783 (n := 8) (z := (2 : Int32)) (vs := [(.int 58), (.int 32)]) (hw _ (List.mem_of_getElem? (i := 241) rfl)) (strAtoms hw) rfl hS761 hk783 hEL (by decide) H_783 ⟨by decide, rfl⟩ (by decide) rfl at_295 297 (by decide) (by decide) (by decide) (by decide) (fun b806 T806 h806 k806 bb806 ki806 C806 X806 e806 E806 hS806 hk806 fe806 fc806 fv806 fa806 A806 sn806 => ?_)
        have f807 := f784.ext E806
        have f808 := f785.ext E806
        have f813 := f790.ext E806
        have f814 := f791.ext E806
        have f815 := f792.ext E806
        have f816 := f793.ext E806
        have f817 := f794.ext E806
        have f818 := f795.ext E806
        have f819 := f796.ext E806
        have f820 := f797.ext E806
        have H_806 := A806.1
        have R_806 := R_783.trans A806
        have Z806 := Nat.le_trans Z783 E806.1
        have f829 : Arv Z h806 bb806 ki806 .byte (Int32.ofNat ([58, 32] : List Int32).length) (([58, 32] : List Int32).map Value.int) (.int 0) := fa806
        refine g_callS0 C806 X806 (b_23 hw) at_297 [(.ref o4593), (.int (Int32.ofNat (5 + dg n1 + 9 + 1 + dg n2))), (.ref b806)] [] 0 (rm38 hw Z806 f817 f818 f819 f820 fe806 fv806 fc806 f829 f807 f808 hcs hwf (show Int32.ofNat (5 + dg n1 + 9 + 1 + dg n2) = _ from rfl) ht5 (show (5 + dg n1 + 9 + 1 + dg n2) + 2 ≤ tx.length from by omega) h45) N783 pd_39 e806 300 (fun T830 _ X830 N830 e830 => ?_)
        refine g_if_eq C806 X830 at_300 319 303 (fun hc300 => absurd hc300 (by decide)) (fun hc300 => ?_)
        refine g_aload C806 X830 at_303 305 rfl rfl ?_
        refine g_iload C806 X830 at_305 307 rfl ?_
        refine g_aload C806 X830 at_307 309 rfl rfl ?_
        refine g_callS0 C806 X830 (b_23 hw) at_309 [(.ref o4593), (.int (Int32.ofNat (5 + dg n1 + 9 + 1 + dg n2 + 2))), (.ref b563)] [] 0 (rm38 hw Z806 f817 f818 f819 f820 f813 f814 f815 f816 f807 f808 hcs hwf rfl ht6 (by omega) h45) N830 pd_39 e830 312 (fun T831 _ X831 N831 e831 => ?_)
        refine g_if_eq C806 X831 at_312 319 315 (fun hc312 => absurd hc312 (by decide)) (fun hc312 => ?_)
        refine g_iconst C806 X831 at_315 316 (v := 1) rfl ?_
        refine g_goto C806 X831 at_316 320 ?_
        exact g_retNH C806 X831 K hS806 hk806 hEL H_806 R_806 (by simp) at_320 (by decide) (by decide) e831 ⟨rfl, N831⟩
    · refine g_iloadN C X578 at_89 90 rfl ?_
      refine g_iloadN C X578 at_90 91 rfl ?_
      refine g_aload C X578 at_91 93 rfl rfl ?_
      refine g_callS0 C X578 (b_24 hw) at_93 [(.int p0), (.int p1), (.ref b563)] [] 0 (rm6_le hw Z578 q578_0 q578_1 q578_2 yq5 f586 f587 f588 f589 f584 hx) N578 pd_37 rfl 96 (fun T832 _ X832 N832 e832 => ?_)
      refine g_astore C X832 at_96 98 rfl (ls' := #[iv p0, iv p1, iv p2, iv p3, rv b1, rv b27, iv 2, rv b563, rv b563, uu, uu, uu, uu, uu, uu, uu, uu, uu, uu, uu, uu, uu]) rfl ?_
      refine g_aload C X832 at_98 100 rfl rfl ?_
      refine g_ifnonnullY C X832 at_100 105 ?_
      refine g_iloadN C X832 at_105 106 rfl ?_
      refine g_if_gt C X832 at_106 117 109 (fun hc106 => absurd hc106 hx) (fun hc106 => ?_)
      refine g_aload C X832 at_109 111 rfl rfl ?_
      refine g_aload C X832 at_111 113 rfl rfl ?_
      refine g_callV0 C X832 (b_25 hw) q578_0 at_113 [(.ref b563)] [] 0 (rm7 hw Z578 rfl) N832 pd_41 e832 116 (fun T833 _ X833 N833 e833 => ?_)
      exact g_retNH C X833 K hS0 hk578 hEL H_578 R_578 (by simp) at_116 (by decide) (by decide) e833 ⟨rfl, N833⟩
set_option maxRecDepth 65536 in
set_option maxHeartbeats 40000000 in
theorem comes_1 {Post : Tables → Env → Array Value → State → Outcome → State → Prop} (hpost : ∀ tb e args s v u, (limb_1_1.after args s (.returned v) u = true ∧ limb_1_2.after args s (.returned v) u = true ∧ True) → ReturnedEndW s (.returned v) u (Jvm.fieldLocs frame_1_writes args s ++ Jvm.arrayLocs frame_1_arrays args s ++ Jvm.staticLocs frame_1_statics s) 88 8064 → Post tb e args s (.returned v) u) :
    ArmFor flags0 classFile x code maxLocals ret World_1 tables_1 room_1 Calls_1 rest_1 Pre_1 Post := by
  intro l hfl _ _ p e ha hc hk s m args below hf hA hF happ hP
  obtain ⟨hcalls, hrest, hpre⟩ := hP
  obtain ⟨-, -, -, hnamed, -, -, -, hat⟩ := (Spec.applies_iff hf).mp happ
  obtain ⟨hg, hn⟩ := and_e (Cond.before_iff.mp (show (Jvm.Cond.and given_1 narrow_1).before args s = true from hpre))
  obtain ⟨gc, g0⟩ := and_e hg
  obtain ⟨k0, g1⟩ := and_e g0
  obtain ⟨k1, g2⟩ := and_e g1
  obtain ⟨k2, g3⟩ := and_e g2
  have k3 := g3
  obtain ⟨w0, w1, w2, w3, rfl⟩ : ∃ w0 w1 w2 w3 : Value, args = #[w0, w1, w2, w3] := by
    have hs : args.size = 4 := by simpa [Cond.value, given_1] using gc
    obtain ⟨L⟩ := args
    match L, hs with
    | [w0, w1, w2, w3], _ => exact ⟨w0, w1, w2, w3, rfl⟩
  have hw := fun d (hd : d ∈ tables_1) => atoms_spec (ws := Jvm.Cond.code x code maxLocals ret :: tables_1) hat d (List.mem_cons_of_mem _ hd)
  obtain ⟨i0, ei0⟩ := is_v k0
  obtain rfl : w0 = (.int i0) := Option.some.inj ei0
  obtain ⟨i1, ei1⟩ := is_v k1
  obtain rfl : w1 = (.int i1) := Option.some.inj ei1
  obtain ⟨i2, ei2⟩ := is_v k2
  obtain rfl : w2 = (.int i2) := Option.some.inj ei2
  obtain ⟨i3, ei3⟩ := is_v k3
  obtain rfl : w3 = (.int i3) := Option.some.inj ei3
  obtain ⟨hsets, hown0⟩ := atoms_of _ (rest_1_c_eq ▸ (show rest_1_c.before _ s = true from hrest))
  obtain ⟨cs1, ecs⟩ := is_v (Cond.before_iff.mp (hsets _ (List.mem_of_getElem? (i := 1) rfl)))
  have S1 := Sta.start ecs (Or.inl (hsets _ (List.mem_of_getElem? (i := 0) rfl)))
  have hcs := own_ne0 ecs (not_v (Cond.before_iff.mp (hsets _ (List.mem_of_getElem? (i := 2) rfl))))
  obtain ⟨wf1, ewf, hwf⟩ := isR_v (Cond.before_iff.mp (hsets _ (List.mem_of_getElem? (i := 8) rfl)))
  have S2 := Sta.start ewf (Or.inl (hsets _ (List.mem_of_getElem? (i := 7) rfl)))
  have hEL : EW s _ EL := EW.cons (hw _ (List.mem_of_getElem? (i := 259) rfl)) (by decide) (EW.cons (hw _ (List.mem_of_getElem? (i := 55) rfl)) (by decide) (EW.cons (hw _ (List.mem_of_getElem? (i := 128) rfl)) (by decide) (EW.cons (hw _ (List.mem_of_getElem? (i := 152) rfl)) (by decide) (EW.cons (hw _ (List.mem_of_getElem? (i := 195) rfl)) (by decide) (EW.cons (hw _ (List.mem_of_getElem? (i := 240) rfl)) (by decide) (EW.cons (hw _ (List.mem_of_getElem? (i := 241) rfl)) (by decide) (EW.nil)))))))
  have hCH : CHv s EL s.vm s.heap := CHv.start hEL (fun q hq => hcalls.1 q ((show ∀ q ∈ EL, q ∈ consts_1 from by decide +kernel) q hq)) (hsets _ (List.mem_of_getElem? (i := 2) rfl)) (w_16 hw) (w_12 hw)
  obtain ⟨o7, kd7, S7, V7⟩ := tab_start (nm := "DigitOnes") (F := fun r => 48 + r % 10) (hsets _ (List.mem_of_getElem? (i := 11) rfl)) (hsets _ (List.mem_of_getElem? (i := 12) rfl)) (hsets _ (List.mem_of_getElem? (i := 13) rfl)) (hsets _ (List.mem_of_getElem? (i := 14) rfl)) (fun r hr => (congrArg (fun z => some (Value.int z)) (ones_num r hr))) ones_fit (w_16 hw)
  obtain ⟨o8, kd8, S8, V8⟩ := tab_start (nm := "DigitTens") (F := fun r => 48 + r / 10) (hsets _ (List.mem_of_getElem? (i := 16) rfl)) (hsets _ (List.mem_of_getElem? (i := 17) rfl)) (hsets _ (List.mem_of_getElem? (i := 18) rfl)) (hsets _ (List.mem_of_getElem? (i := 19) rfl)) (fun r hr => (congrArg (fun z => some (Value.int z)) (tens_num r hr))) tens_fit (w_16 hw)
  obtain ⟨n, o, h1, h2, h3, _, L, rfl, ⟨rfl, N⟩, -, hq⟩ := rm0 l s _ hw tables_1 i0 i1 i2 i3 cs1 wf1 o7 o8 kd7 kd8 s.heap s.heap.size (Nat.le_refl _) hEL S1 S2 S7 S8 V7 V8 hcs hwf p e ha hc hk s m _ below hf ((Spec.applies_iff_loose hf).mp happ).1 ⟨rfl, State.Warmed39.refl s, rfl, hCH⟩ trivial
  refine ⟨n, _, h1, h2, h3, hpost _ _ _ _ _ _ ⟨Cond.after_iff.mpr rfl, Cond.after_iff.mpr (eq_i res_at (Term.int_eval (1)) rfl), trivial⟩ ⟨hq.1, hq.2.1, hq.2.2.1, (hq.2.2.2.sift fun y hy => Or.inr (N y hy)).mono (by decide) (by decide)⟩⟩
theorem main_1_1 : Claimed_1_1 := comes_1 fun _ _ _ _ _ _ h hF => ⟨h.1, hF⟩
theorem main_1_2 : Claimed_1_2 := comes_1 fun _ _ _ _ _ _ h hF => ⟨h.2.1, hF⟩
end Jvm.Pilot.@@N@@
namespace Jvm.Pilot.@@N@@
open Jvm Jvm.ClassFile Sem Op Lib Jvm.Free Jvm.Stand Jvm.Pilot.@@N@@.Jvm.D
/-! MADE BY PROGRAM (witnessworld.py) out of the Statement's table words and the real class files: 30 classes; the members and pool entries that the words name. The judged class is class 1, her method 1. -/
namespace start1
open Jvm.ClassFile
def u (s : String) : CpInfo := .utf8 (stringToUtf16 s)
/-- a pool by its gaps: so many unusable entries, then the entry; so many at the end -/
def gap : Nat → List CpInfo → List CpInfo
  | 0, r => r
  | n + 1, r => .unusable :: gap n r
def poolList (es : List (Nat × CpInfo)) (last : Nat) : List CpInfo := es.foldr (fun e r => gap e.1 (e.2 :: r)) (gap last [])
def pool (es : List (Nat × CpInfo)) (last : Nat) : Array CpInfo := ⟨poolList es last⟩
def fileOf (pool : Array CpInfo) (this : Nat) (attrs : Array Attribute := #[]) (ms : Array MethodInfo := #[]) (fl : Nat := 33) (sup : Nat := 0) (ifs : Array Nat := #[]) (fds : Array FieldInfo := #[]) : ClassFile where
  minorVersion := 0
  majorVersion := 65
  constantPool := pool
  accessFlags := fl
  thisClass := this
  superClass := sup
  interfaces := ifs
  fields := fds
  methods := ms
  attributes := attrs
def plain (name : String) (sup : Option ClassId) : Class where
  name := name
  kind := .ordinary
  loader := none
  accessFlags := 33
  super := sup
  interfaces := #[]
  cf := none
  fields := #[]
  methods := #[]
  instanceTypes := #[]
  staticTypes := #[]
  resolved := #[]
  callSites := []
  init := .initialized
  statics := none
  mirror := none

def pool0 : Array CpInfo := pool [(5, u "<init>"), (0, u "()V"), (1, .class_ 10), (1, u "java/lang/Object"), (85, u "clone"), (0, u "()Ljava/lang/Object;")] 26

def k0c0 : Code := { maxStack := 0, maxLocals := 1, code := object_method_1_code, exceptionTable := #[], attributes := #[] }
def k0m0 : Method := { name := "<init>", desc := "()V", sig := { parameters := [], returnType := none }, accessFlags := 1, code := some k0c0 }
def k0m1 : Method := { name := "clone", desc := "()Ljava/lang/Object;", sig := { parameters := [], returnType := some (.object "java/lang/Object") }, accessFlags := 260, code := none }
/-- java/lang/Object -/
def k0 : Class := { plain "java/lang/Object" none with
  accessFlags := 33
  interfaces := #[]
  cf := some (fileOf pool0 8 #[] #[{ accessFlags := 1, nameIndex := 5, descriptorIndex := 6, attributes := #[] }, { accessFlags := 260, nameIndex := 96, descriptorIndex := 97, attributes := #[] }] 33 0 #[] #[])
  fields := #[]
  methods := #[k0m0, k0m1]
  instanceTypes := #[]
  staticTypes := #[]
  resolved := Array.replicate 124 none
  statics := none }

def pool1 : Array CpInfo := pool [(2, .class_ 4), (1, u "java/lang/Object"), (0, u "<init>"), (0, u "()V"), (0, .integer 2147483647), (0, .class_ 9), (0, u "java/lang/String"), (0, .methodref 8 11), (0, .nameAndType 5 12), (0, u "([C)V"), (0, .methodref 8 14), (0, .nameAndType 15 16), (0, u "valueOf"), (0, u "(C)Ljava/lang/String;"), (0, .methodref 18 19), (0, .class_ 20), (0, .nameAndType 21 22), (0, u "com/example/firer/firer/formats/ParserMessages"), (0, u "at"), (0, u "(IILjava/lang/String;)Ljava/lang/String;"), (0, .methodref 8 24), (0, .nameAndType 25 26), (0, u "equals"), (0, u "(Ljava/lang/Object;)Z"), (0, .methodref 28 29), (0, .class_ 30), (0, .nameAndType 31 32), (0, u "com/example/firer/firer/formats/ParserMessagesAtPinLaw"), (0, u "numLen"), (0, u "(J)I"), (0, .methodref 8 34), (0, .nameAndType 35 36), (0, u "length"), (0, u "()I"), (0, .string 38), (0, u "line "), (0, .methodref 28 40), (0, .nameAndType 41 42), (0, u "sameAt"), (0, u "(Ljava/lang/String;ILjava/lang/String;)Z"), (0, .methodref 28 44), (0, .nameAndType 45 46), (0, u "digitsAt"), (0, u "(Ljava/lang/String;IJI)Z"), (0, .string 48), (0, u ", column "), (0, .methodref 8 50), (0, .nameAndType 51 52), (0, u "charAt"), (0, u "(I)C"), (0, .string 54), (0, u ": "), (0, .long 10), (1, .long 100), (1, .long 1000), (1, .long 10000), (1, .long 100000), (1, .long 1000000), (1, .long 10000000), (1, .long 100000000), (1, .long 1000000000), (1, .methodref 28 74), (0, .nameAndType 75 76), (0, u "pow10"), (0, u "(I)J"), (0, .methodref 28 78), (0, .nameAndType 79 80), (0, u "dig"), (0, u "(Ljava/lang/String;IJII)Z"), (0, .methodref 28 82), (0, .nameAndType 83 84), (0, u "step"), (0, u "(Ljava/lang/String;ILjava/lang/String;I)Z"), (2, u "law"), (0, u "(IIII)Z")] 5

def k1m0 : Method := { name := "<init>", desc := "()V", sig := { parameters := [], returnType := none }, accessFlags := 2, code := none }
def k1c1 : Code := { maxStack := 5, maxLocals := 22, code := code, exceptionTable := #[], attributes := #[] }
def k1m1 : Method := { name := "law", desc := "(IIII)Z", sig := { parameters := [.int, .int, .int, .int], returnType := some .boolean }, accessFlags := 9, code := some k1c1 }
def k1c2 : Code := { maxStack := 4, maxLocals := 2, code := method_3_code, exceptionTable := #[], attributes := #[] }
def k1m2 : Method := { name := "numLen", desc := "(J)I", sig := { parameters := [.long], returnType := some .int }, accessFlags := 10, code := some k1c2 }
def k1c3 : Code := { maxStack := 5, maxLocals := 2, code := method_4_code, exceptionTable := #[], attributes := #[] }
def k1m3 : Method := { name := "pow10", desc := "(I)J", sig := { parameters := [.int], returnType := some .long }, accessFlags := 10, code := some k1c3 }
def k1c4 : Code := { maxStack := 4, maxLocals := 7, code := method_5_code, exceptionTable := #[], attributes := #[] }
def k1m4 : Method := { name := "dig", desc := "(Ljava/lang/String;IJII)Z", sig := { parameters := [(.object "java/lang/String"), .int, .long, .int, .int], returnType := some .boolean }, accessFlags := 10, code := some k1c4 }
def k1c5 : Code := { maxStack := 6, maxLocals := 5, code := method_6_code, exceptionTable := #[], attributes := #[] }
def k1m5 : Method := { name := "digitsAt", desc := "(Ljava/lang/String;IJI)Z", sig := { parameters := [(.object "java/lang/String"), .int, .long, .int], returnType := some .boolean }, accessFlags := 10, code := some k1c5 }
def k1c6 : Code := { maxStack := 3, maxLocals := 4, code := method_7_code, exceptionTable := #[], attributes := #[] }
def k1m6 : Method := { name := "step", desc := "(Ljava/lang/String;ILjava/lang/String;I)Z", sig := { parameters := [(.object "java/lang/String"), .int, (.object "java/lang/String"), .int], returnType := some .boolean }, accessFlags := 10, code := some k1c6 }
def k1c7 : Code := { maxStack := 4, maxLocals := 3, code := method_8_code, exceptionTable := #[], attributes := #[] }
def k1m7 : Method := { name := "sameAt", desc := "(Ljava/lang/String;ILjava/lang/String;)Z", sig := { parameters := [(.object "java/lang/String"), .int, (.object "java/lang/String")], returnType := some .boolean }, accessFlags := 10, code := some k1c7 }
/-- com/example/firer/firer/formats/ParserMessagesAtPinLaw -/
def k1 : Class := { plain "com/example/firer/firer/formats/ParserMessagesAtPinLaw" (some 0) with
  accessFlags := 49
  interfaces := #[]
  cf := some (fileOf pool1 28 #[] #[{ accessFlags := 2, nameIndex := 5, descriptorIndex := 6, attributes := #[] }, { accessFlags := 9, nameIndex := 87, descriptorIndex := 88, attributes := #[] }, { accessFlags := 10, nameIndex := 31, descriptorIndex := 32, attributes := #[] }, { accessFlags := 10, nameIndex := 75, descriptorIndex := 76, attributes := #[] }, { accessFlags := 10, nameIndex := 79, descriptorIndex := 80, attributes := #[] }, { accessFlags := 10, nameIndex := 45, descriptorIndex := 46, attributes := #[] }, { accessFlags := 10, nameIndex := 83, descriptorIndex := 84, attributes := #[] }, { accessFlags := 10, nameIndex := 41, descriptorIndex := 42, attributes := #[] }] 49 2 #[] #[])
  fields := #[]
  methods := #[k1m0, k1m1, k1m2, k1m3, k1m4, k1m5, k1m6, k1m7]
  instanceTypes := #[]
  staticTypes := #[]
  resolved := Array.replicate 94 none
  statics := none }

def pool2 : Array CpInfo := pool [(1, .class_ 2), (0, u "java/io/Serializable"), (0, .class_ 4), (0, u "java/lang/Object")] 2

/-- java/io/Serializable -/
def k2 : Class := { plain "java/io/Serializable" (some 0) with
  accessFlags := 1537
  interfaces := #[]
  cf := some (fileOf pool2 1 #[] #[] 1537 3 #[] #[])
  fields := #[]
  methods := #[]
  instanceTypes := #[]
  staticTypes := #[]
  resolved := Array.replicate 7 none
  statics := none }

def pool3 : Array CpInfo := pool [(1, .class_ 2), (0, u "java/lang/Comparable"), (0, .class_ 4), (0, u "java/lang/Object")] 7

/-- java/lang/Comparable -/
def k3 : Class := { plain "java/lang/Comparable" (some 0) with
  accessFlags := 1537
  interfaces := #[]
  cf := some (fileOf pool3 1 #[] #[] 1537 3 #[] #[])
  fields := #[]
  methods := #[]
  instanceTypes := #[]
  staticTypes := #[]
  resolved := Array.replicate 12 none
  statics := none }

def pool4 : Array CpInfo := pool [(2, .class_ 4), (1, u "java/lang/CharSequence"), (42, .class_ 48), (0, u "java/lang/CharSequence$1CodePointIterator"), (10, .class_ 60), (0, u "java/lang/CharSequence$1CharIterator"), (5, .class_ 67), (0, u "java/lang/Object")] 63

/-- java/lang/CharSequence -/
def k4 : Class := { plain "java/lang/CharSequence" (some 0) with
  accessFlags := 1537
  interfaces := #[]
  cf := some (fileOf pool4 2 #[.nestMembers #[47, 59]] #[] 1537 66 #[] #[])
  fields := #[]
  methods := #[]
  instanceTypes := #[]
  staticTypes := #[]
  resolved := Array.replicate 131 none
  statics := none }

def pool5 : Array CpInfo := pool [(1, .class_ 2), (0, u "java/lang/constant/Constable"), (0, .class_ 4), (0, u "java/lang/Object")] 6

/-- java/lang/constant/Constable -/
def k5 : Class := { plain "java/lang/constant/Constable" (some 0) with
  accessFlags := 1537
  interfaces := #[]
  cf := some (fileOf pool5 1 #[] #[] 1537 3 #[] #[])
  fields := #[]
  methods := #[]
  instanceTypes := #[]
  staticTypes := #[]
  resolved := Array.replicate 11 none
  statics := none }

def pool6 : Array CpInfo := pool [(1, .class_ 2), (0, u "java/lang/constant/ConstantDesc"), (0, .class_ 4), (0, u "java/lang/Object")] 32

/-- java/lang/constant/ConstantDesc -/
def k6 : Class := { plain "java/lang/constant/ConstantDesc" (some 0) with
  accessFlags := 1537
  interfaces := #[]
  cf := some (fileOf pool6 1 #[] #[] 1537 3 #[] #[])
  fields := #[]
  methods := #[]
  instanceTypes := #[]
  staticTypes := #[]
  resolved := Array.replicate 37 none
  statics := none }

def pool7 : Array CpInfo := pool [(1, .methodref 2 3), (0, .class_ 4), (0, .nameAndType 5 6), (0, u "java/lang/Object"), (0, u "<init>"), (0, u "()V"), (0, .string 8), (0, u ""), (0, .fieldref 10 11), (0, .class_ 12), (0, .nameAndType 13 14), (0, u "java/lang/String"), (0, u "value"), (0, u "[B"), (0, .fieldref 10 16), (0, .nameAndType 17 18), (0, u "coder"), (0, u "B"), (2, u "hash"), (0, u "I"), (2, u "hashIsZero"), (0, u "Z"), (0, .methodref 10 28), (0, .nameAndType 5 29), (0, u "([CIILjava/lang/Void;)V"), (8, .fieldref 10 39), (0, .nameAndType 40 26), (0, u "COMPACT_STRINGS"), (1, .class_ 44), (1, u "java/lang/StringUTF16"), (0, u "compress"), (1, .methodref 42 48), (0, .nameAndType 49 50), (0, u "coderFromArrayLen"), (0, u "([BI)B"), (2, u "toBytes"), (0, .methodref 55 56), (0, .class_ 57), (0, .nameAndType 58 59), (0, u "java/util/Arrays"), (0, u "copyOfRange"), (0, u "([BII)[B"), (47, .class_ 109), (1, u "java/lang/StringLatin1"), (32, u "()Z"), (34, .methodref 42 178), (0, .nameAndType 45 179), (0, u "([CII)[B"), (13, .class_ 195), (1, u "java/lang/System"), (13, .methodref 10 210), (0, .nameAndType 5 211), (0, u "([BB)V"), (0, .methodref 193 213), (0, .nameAndType 214 215), (0, u "arraycopy"), (0, u "(Ljava/lang/Object;ILjava/lang/Object;II)V"), (118, u "()I"), (0, .methodref 10 336), (0, .nameAndType 17 337), (0, u "()B"), (2, u "()[B"), (22, u "([BI)C"), (5, u "(C)Z"), (21, u "(II)V"), (35, u "(I)C"), (61, .methodref 10 490), (0, .nameAndType 5 491), (0, u "(Ljava/lang/AbstractStringBuilder;Ljava/lang/Void;)V"), (0, .methodref 10 493), (0, .nameAndType 494 142), (0, u "isLatin1"), (0, .methodref 107 496), (0, .nameAndType 497 363), (0, u "charAt"), (3, u "checkIndex"), (4, .nameAndType 507 334), (0, u "length"), (24, u "getBytes"), (10, u "equals"), (5, .methodref 550 506), (0, .class_ 551), (0, u "java/lang/AbstractStringBuilder"), (0, .methodref 550 553), (0, .nameAndType 554 340), (0, u "getValue"), (18, u "(Ljava/lang/Object;)Z"), (1, .class_ 576), (0, u "java/lang/CharSequence"), (22, u "CASE_INSENSITIVE_ORDER"), (0, u "Ljava/util/Comparator;"), (181, u "valueOf"), (0, u "(C)Ljava/lang/String;"), (37, u "([BIB)V"), (188, u "([C)V"), (4, .methodref 107 1016), (0, .nameAndType 1017 369), (0, u "canEncode"), (0, .methodref 107 1019), (0, .nameAndType 53 1020), (0, u "(C)[B"), (26, .methodref 550 493), (5, .fieldref 1054 1055), (0, .class_ 1056), (0, .nameAndType 1057 1058), (0, u "jdk/internal/util/Preconditions"), (0, u "SIOOBE_FORMATTER"), (0, u "Ljava/util/function/BiFunction;"), (0, .methodref 1054 1060), (0, .nameAndType 501 1061), (0, u "(IILjava/util/function/BiFunction;)I"), (39, u "serialPersistentFields"), (0, u "[Ljava/io/ObjectStreamField;"), (0, .class_ 1104), (0, u "java/lang/String$CaseInsensitiveComparator"), (1, .class_ 1107), (0, u "java/io/Serializable"), (0, .class_ 1109), (0, u "java/lang/Comparable"), (0, .class_ 1111), (0, u "java/lang/constant/Constable"), (0, .class_ 1113), (0, u "java/lang/constant/ConstantDesc"), (2, u "serialVersionUID"), (0, u "J"), (3, u "REPL"), (0, u "C"), (2, u "LATIN1"), (1, u "UTF16"), (105, u "(Ljava/lang/StringBuilder;)V")] 217

def k7m0 : Method := { name := "<init>", desc := "()V", sig := { parameters := [], returnType := none }, accessFlags := 1, code := none }
def k7c1 : Code := { maxStack := 5, maxLocals := 2, code := jdk_42_method_3_code, exceptionTable := #[], attributes := #[] }
def k7m1 : Method := { name := "<init>", desc := "([C)V", sig := { parameters := [(.array .char)], returnType := none }, accessFlags := 1, code := some k7c1 }
def k7c2 : Code := { maxStack := 3, maxLocals := 2, code := jdk_42_method_53_code, exceptionTable := #[], attributes := #[] }
def k7m2 : Method := { name := "<init>", desc := "(Ljava/lang/StringBuilder;)V", sig := { parameters := [(.object "java/lang/StringBuilder")], returnType := none }, accessFlags := 1, code := some k7c2 }
def k7c3 : Code := { maxStack := 2, maxLocals := 1, code := jdk_42_method_54_code, exceptionTable := #[], attributes := #[] }
def k7m3 : Method := { name := "length", desc := "()I", sig := { parameters := [], returnType := some .int }, accessFlags := 1, code := some k7c3 }
def k7c4 : Code := { maxStack := 2, maxLocals := 2, code := jdk_42_method_56_code, exceptionTable := #[], attributes := #[] }
def k7m4 : Method := { name := "charAt", desc := "(I)C", sig := { parameters := [.int], returnType := some .char }, accessFlags := 1, code := some k7c4 }
def k7c5 : Code := { maxStack := 2, maxLocals := 3, code := jdk_42_method_66_code, exceptionTable := #[], attributes := #[] }
def k7m5 : Method := { name := "equals", desc := "(Ljava/lang/Object;)Z", sig := { parameters := [(.object "java/lang/Object")], returnType := some .boolean }, accessFlags := 1, code := some k7c5 }
def k7c6 : Code := { maxStack := 4, maxLocals := 1, code := jdk_42_method_139_code, exceptionTable := #[], attributes := #[] }
def k7m6 : Method := { name := "valueOf", desc := "(C)Ljava/lang/String;", sig := { parameters := [.char], returnType := some (.object "java/lang/String") }, accessFlags := 9, code := some k7c6 }
def k7c7 : Code := { maxStack := 5, maxLocals := 4, code := jdk_42_method_147_code, exceptionTable := #[], attributes := #[] }
def k7m7 : Method := { name := "getBytes", desc := "([BIB)V", sig := { parameters := [(.array .byte), .int, .byte], returnType := none }, accessFlags := 0, code := some k7c7 }
def k7c8 : Code := { maxStack := 4, maxLocals := 6, code := jdk_42_method_149_code, exceptionTable := #[], attributes := #[] }
def k7m8 : Method := { name := "<init>", desc := "([CIILjava/lang/Void;)V", sig := { parameters := [(.array .char), .int, .int, (.object "java/lang/Void")], returnType := none }, accessFlags := 2, code := some k7c8 }
def k7c9 : Code := { maxStack := 5, maxLocals := 5, code := jdk_42_method_150_code, exceptionTable := #[], attributes := #[] }
def k7m9 : Method := { name := "<init>", desc := "(Ljava/lang/AbstractStringBuilder;Ljava/lang/Void;)V", sig := { parameters := [(.object "java/lang/AbstractStringBuilder"), (.object "java/lang/Void")], returnType := none }, accessFlags := 0, code := some k7c9 }
def k7c10 : Code := { maxStack := 2, maxLocals := 3, code := jdk_42_method_151_code, exceptionTable := #[], attributes := #[] }
def k7m10 : Method := { name := "<init>", desc := "([BB)V", sig := { parameters := [(.array .byte), .byte], returnType := none }, accessFlags := 0, code := some k7c10 }
def k7c11 : Code := { maxStack := 1, maxLocals := 1, code := jdk_42_method_152_code, exceptionTable := #[], attributes := #[] }
def k7m11 : Method := { name := "coder", desc := "()B", sig := { parameters := [], returnType := some .byte }, accessFlags := 0, code := some k7c11 }
def k7c12 : Code := { maxStack := 1, maxLocals := 1, code := jdk_42_method_154_code, exceptionTable := #[], attributes := #[] }
def k7m12 : Method := { name := "isLatin1", desc := "()Z", sig := { parameters := [], returnType := some .boolean }, accessFlags := 0, code := some k7c12 }
def k7c13 : Code := { maxStack := 3, maxLocals := 2, code := jdk_42_method_155_code, exceptionTable := #[], attributes := #[] }
def k7m13 : Method := { name := "checkIndex", desc := "(II)V", sig := { parameters := [.int, .int], returnType := none }, accessFlags := 8, code := some k7c13 }
/-- java/lang/String -/
def k7 : Class := { plain "java/lang/String" (some 0) with
  accessFlags := 49
  interfaces := #[2, 3, 4, 5, 6]
  cf := some (fileOf pool7 10 #[.nestMembers #[1103]] #[{ accessFlags := 1, nameIndex := 5, descriptorIndex := 6, attributes := #[] }, { accessFlags := 1, nameIndex := 5, descriptorIndex := 1010, attributes := #[] }, { accessFlags := 1, nameIndex := 5, descriptorIndex := 1233, attributes := #[] }, { accessFlags := 1, nameIndex := 507, descriptorIndex := 334, attributes := #[] }, { accessFlags := 1, nameIndex := 497, descriptorIndex := 427, attributes := #[] }, { accessFlags := 1, nameIndex := 543, descriptorIndex := 573, attributes := #[] }, { accessFlags := 9, nameIndex := 782, descriptorIndex := 783, attributes := #[] }, { accessFlags := 0, nameIndex := 532, descriptorIndex := 821, attributes := #[] }, { accessFlags := 2, nameIndex := 5, descriptorIndex := 29, attributes := #[] }, { accessFlags := 0, nameIndex := 5, descriptorIndex := 491, attributes := #[] }, { accessFlags := 0, nameIndex := 5, descriptorIndex := 211, attributes := #[] }, { accessFlags := 0, nameIndex := 17, descriptorIndex := 337, attributes := #[] }, { accessFlags := 0, nameIndex := 494, descriptorIndex := 142, attributes := #[] }, { accessFlags := 8, nameIndex := 501, descriptorIndex := 391, attributes := #[] }] 49 2 #[1106, 1108, 575, 1110, 1112] #[{ accessFlags := 18, nameIndex := 13, descriptorIndex := 14, attributes := #[] }, { accessFlags := 18, nameIndex := 17, descriptorIndex := 18, attributes := #[] }, { accessFlags := 2, nameIndex := 21, descriptorIndex := 22, attributes := #[] }, { accessFlags := 2, nameIndex := 25, descriptorIndex := 26, attributes := #[] }, { accessFlags := 26, nameIndex := 1116, descriptorIndex := 1117, attributes := #[] }, { accessFlags := 24, nameIndex := 40, descriptorIndex := 26, attributes := #[] }, { accessFlags := 26, nameIndex := 1101, descriptorIndex := 1102, attributes := #[] }, { accessFlags := 26, nameIndex := 1121, descriptorIndex := 1122, attributes := #[] }, { accessFlags := 25, nameIndex := 599, descriptorIndex := 600, attributes := #[] }, { accessFlags := 24, nameIndex := 1125, descriptorIndex := 18, attributes := #[] }, { accessFlags := 24, nameIndex := 1127, descriptorIndex := 18, attributes := #[] }])
  fields := #[{ name := "value", type := (.array .byte), accessFlags := 18, slot := 0, constantValue := 0 }, { name := "coder", type := .byte, accessFlags := 18, slot := 1, constantValue := 0 }, { name := "hash", type := .int, accessFlags := 2, slot := 2, constantValue := 0 }, { name := "hashIsZero", type := .boolean, accessFlags := 2, slot := 3, constantValue := 0 }, { name := "serialVersionUID", type := .long, accessFlags := 26, slot := 0, constantValue := 0 }, { name := "COMPACT_STRINGS", type := .boolean, accessFlags := 24, slot := 1, constantValue := 0 }, { name := "serialPersistentFields", type := (.array (.object "java/io/ObjectStreamField")), accessFlags := 26, slot := 2, constantValue := 0 }, { name := "REPL", type := .char, accessFlags := 26, slot := 3, constantValue := 0 }, { name := "CASE_INSENSITIVE_ORDER", type := (.object "java/util/Comparator"), accessFlags := 25, slot := 4, constantValue := 0 }, { name := "LATIN1", type := .byte, accessFlags := 24, slot := 5, constantValue := 0 }, { name := "UTF16", type := .byte, accessFlags := 24, slot := 6, constantValue := 0 }]
  methods := #[k7m0, k7m1, k7m2, k7m3, k7m4, k7m5, k7m6, k7m7, k7m8, k7m9, k7m10, k7m11, k7m12, k7m13]
  instanceTypes := #[(.array .byte), .byte, .int, .boolean]
  staticTypes := #[.long, .boolean, (.array (.object "java/io/ObjectStreamField")), .char, (.object "java/util/Comparator"), .byte, .byte]
  resolved := Array.replicate 1451 none
  statics := some 0 }

def pool8 : Array CpInfo := pool [(1, .class_ 2), (0, u "java/lang/String"), (1, .class_ 6), (1, u "java/lang/Object"), (0, u "<init>"), (0, u "()V"), (0, .methodref 1 10), (0, .nameAndType 11 12), (0, u "checkIndex"), (0, u "(II)V"), (1, .class_ 16), (1, u "java/lang/StringLatin1"), (36, u "([BI)C"), (36, u "canEncode"), (14, u "(C)Z"), (15, u "$assertionsDisabled"), (0, u "Z"), (98, .class_ 223), (1, u "java/lang/StringLatin1$LinesSpliterator"), (28, u "charAt"), (127, u "toBytes"), (1, u "(C)[B"), (7, .class_ 391), (0, u "java/lang/StringLatin1$CharsSpliterator")] 3

def k8m0 : Method := { name := "<init>", desc := "()V", sig := { parameters := [], returnType := none }, accessFlags := 0, code := none }
def k8c1 : Code := { maxStack := 2, maxLocals := 2, code := jdk_43_method_2_code, exceptionTable := #[], attributes := #[] }
def k8m1 : Method := { name := "charAt", desc := "([BI)C", sig := { parameters := [(.array .byte), .int], returnType := some .char }, accessFlags := 9, code := some k8c1 }
def k8c2 : Code := { maxStack := 2, maxLocals := 1, code := jdk_43_method_3_code, exceptionTable := #[], attributes := #[] }
def k8m2 : Method := { name := "canEncode", desc := "(C)Z", sig := { parameters := [.char], returnType := some .boolean }, accessFlags := 9, code := some k8c2 }
def k8c3 : Code := { maxStack := 4, maxLocals := 1, code := jdk_43_method_46_code, exceptionTable := #[], attributes := #[] }
def k8m3 : Method := { name := "toBytes", desc := "(C)[B", sig := { parameters := [.char], returnType := some (.array .byte) }, accessFlags := 9, code := some k8c3 }
/-- java/lang/StringLatin1 -/
def k8 : Class := { plain "java/lang/StringLatin1" (some 0) with
  accessFlags := 48
  interfaces := #[]
  cf := some (fileOf pool8 14 #[.nestMembers #[390, 221]] #[{ accessFlags := 0, nameIndex := 7, descriptorIndex := 8, attributes := #[] }, { accessFlags := 9, nameIndex := 252, descriptorIndex := 53, attributes := #[] }, { accessFlags := 9, nameIndex := 90, descriptorIndex := 105, attributes := #[] }, { accessFlags := 9, nameIndex := 380, descriptorIndex := 382, attributes := #[] }] 48 4 #[] #[{ accessFlags := 4120, nameIndex := 121, descriptorIndex := 122, attributes := #[] }])
  fields := #[{ name := "$assertionsDisabled", type := .boolean, accessFlags := 4120, slot := 0, constantValue := 0 }]
  methods := #[k8m0, k8m1, k8m2, k8m3]
  instanceTypes := #[]
  staticTypes := #[.boolean]
  resolved := Array.replicate 395 none
  statics := none }

def pool9 : Array CpInfo := pool [(2, .class_ 4), (0, .nameAndType 5 6), (0, u "java/lang/Object"), (0, u "<init>"), (0, u "()V"), (0, .class_ 8), (0, u "java/lang/StringBuilder"), (0, .methodref 7 3), (0, .string 11), (0, u "line "), (0, .methodref 7 13), (0, .nameAndType 14 15), (0, u "append"), (0, u "(Ljava/lang/String;)Ljava/lang/StringBuilder;"), (0, .methodref 7 17), (0, .nameAndType 14 18), (0, u "(I)Ljava/lang/StringBuilder;"), (0, .string 20), (0, u ", column "), (0, .string 22), (0, u ": "), (0, .methodref 7 24), (0, .nameAndType 25 26), (0, u "toString"), (0, u "()Ljava/lang/String;"), (0, .class_ 28), (0, u "com/example/firer/firer/formats/ParserMessages"), (2, u "at"), (0, u "(IILjava/lang/String;)Ljava/lang/String;")] 5

def k9m0 : Method := { name := "<init>", desc := "()V", sig := { parameters := [], returnType := none }, accessFlags := 2, code := none }
def k9c1 : Code := { maxStack := 2, maxLocals := 4, code := prog_33_method_2_code, exceptionTable := #[], attributes := #[] }
def k9m1 : Method := { name := "at", desc := "(IILjava/lang/String;)Ljava/lang/String;", sig := { parameters := [.int, .int, (.object "java/lang/String")], returnType := some (.object "java/lang/String") }, accessFlags := 8, code := some k9c1 }
/-- com/example/firer/firer/formats/ParserMessages -/
def k9 : Class := { plain "com/example/firer/firer/formats/ParserMessages" (some 0) with
  accessFlags := 48
  interfaces := #[]
  cf := some (fileOf pool9 27 #[] #[{ accessFlags := 2, nameIndex := 5, descriptorIndex := 6, attributes := #[] }, { accessFlags := 8, nameIndex := 31, descriptorIndex := 32, attributes := #[] }] 48 2 #[] #[])
  fields := #[]
  methods := #[k9m0, k9m1]
  instanceTypes := #[]
  staticTypes := #[]
  resolved := Array.replicate 38 none
  statics := none }

def pool10 : Array CpInfo := pool [(1, .class_ 2), (0, u "java/lang/Appendable"), (0, .class_ 4), (0, u "java/lang/Object")] 9

/-- java/lang/Appendable -/
def k10 : Class := { plain "java/lang/Appendable" (some 0) with
  accessFlags := 1537
  interfaces := #[]
  cf := some (fileOf pool10 1 #[] #[] 1537 3 #[] #[])
  fields := #[]
  methods := #[]
  instanceTypes := #[]
  staticTypes := #[]
  resolved := Array.replicate 14 none
  statics := none }

def pool11 : Array CpInfo := pool [(1, .class_ 2), (0, u "java/lang/String"), (0, .methodref 4 5), (0, .class_ 6), (0, .nameAndType 7 8), (0, u "java/lang/Object"), (0, u "<init>"), (0, u "()V"), (1, .class_ 12), (1, u "java/lang/AbstractStringBuilder"), (0, u "EMPTYVALUE"), (0, u "[B"), (0, .fieldref 10 16), (0, .nameAndType 17 14), (0, u "value"), (0, .fieldref 1 19), (0, .nameAndType 20 21), (0, u "COMPACT_STRINGS"), (0, u "Z"), (0, .fieldref 10 23), (0, .nameAndType 24 25), (0, u "coder"), (0, u "B"), (6, .methodref 1 33), (0, .nameAndType 34 35), (0, u "length"), (0, u "()I"), (0, .class_ 37), (0, u "java/lang/Integer"), (1, .integer 2147483647), (0, .methodref 1 41), (0, .nameAndType 24 42), (0, u "()B"), (2, u "append"), (0, u "(Ljava/lang/String;)Ljava/lang/AbstractStringBuilder;"), (1, .class_ 49), (0, u "java/lang/CharSequence"), (19, u "(Ljava/lang/String;)V"), (5, u "maybeLatin1"), (3, .fieldref 10 80), (0, .nameAndType 81 82), (0, u "count"), (0, u "I"), (0, .methodref 10 84), (0, .nameAndType 85 86), (0, u "isLatin1"), (0, u "()Z"), (13, .methodref 10 101), (0, .nameAndType 102 103), (0, u "ensureCapacityInternal"), (0, u "(I)V"), (0, .methodref 10 105), (0, .nameAndType 106 107), (0, u "newCapacity"), (0, u "(I)I"), (0, .methodref 109 110), (0, .class_ 111), (0, .nameAndType 112 113), (0, u "java/util/Arrays"), (0, u "copyOf"), (0, u "([BI)[B"), (0, .methodref 115 116), (0, .class_ 117), (0, .nameAndType 118 119), (0, u "jdk/internal/util/ArraysSupport"), (0, u "newLength"), (0, u "(III)I"), (68, u "getChars"), (19, .methodref 10 209), (0, .nameAndType 210 211), (0, u "putStringAt"), (0, u "(ILjava/lang/String;)V"), (5, u "inflateIfNeededFor"), (2, .nameAndType 221 222), (0, u "getBytes"), (0, u "([BIB)V"), (22, .methodref 36 246), (0, .nameAndType 247 107), (0, u "stringSize"), (0, .methodref 36 249), (0, .nameAndType 188 250), (0, u "(II[B)I"), (146, .methodref 10 398), (0, .nameAndType 217 69), (0, .methodref 1 220), (3, u "()[B"), (40, .class_ 445), (0, u "java/lang/Appendable"), (65, u "(I)Ljava/lang/AbstractStringBuilder;"), (40, u "getValue")] 56

def k11m0 : Method := { name := "<init>", desc := "()V", sig := { parameters := [], returnType := none }, accessFlags := 0, code := none }
def k11c1 : Code := { maxStack := 2, maxLocals := 2, code := jdk_68_method_2_code, exceptionTable := #[], attributes := #[] }
def k11m1 : Method := { name := "<init>", desc := "(I)V", sig := { parameters := [.int], returnType := none }, accessFlags := 0, code := some k11c1 }
def k11c2 : Code := { maxStack := 1, maxLocals := 1, code := jdk_68_method_6_code, exceptionTable := #[], attributes := #[] }
def k11m2 : Method := { name := "length", desc := "()I", sig := { parameters := [], returnType := some .int }, accessFlags := 1, code := some k11c2 }
def k11c3 : Code := { maxStack := 4, maxLocals := 3, code := jdk_68_method_9_code, exceptionTable := #[], attributes := #[] }
def k11m3 : Method := { name := "ensureCapacityInternal", desc := "(I)V", sig := { parameters := [.int], returnType := none }, accessFlags := 2, code := some k11c3 }
def k11c4 : Code := { maxStack := 5, maxLocals := 6, code := jdk_68_method_10_code, exceptionTable := #[], attributes := #[] }
def k11m4 : Method := { name := "newCapacity", desc := "(I)I", sig := { parameters := [.int], returnType := some .int }, accessFlags := 2, code := some k11c4 }
def k11c5 : Code := { maxStack := 3, maxLocals := 3, code := jdk_68_method_22_code, exceptionTable := #[], attributes := #[] }
def k11m5 : Method := { name := "append", desc := "(Ljava/lang/String;)Ljava/lang/AbstractStringBuilder;", sig := { parameters := [(.object "java/lang/String")], returnType := some (.object "java/lang/AbstractStringBuilder") }, accessFlags := 1, code := some k11c5 }
def k11c6 : Code := { maxStack := 4, maxLocals := 4, code := jdk_68_method_32_code, exceptionTable := #[], attributes := #[] }
def k11m6 : Method := { name := "append", desc := "(I)Ljava/lang/AbstractStringBuilder;", sig := { parameters := [.int], returnType := some (.object "java/lang/AbstractStringBuilder") }, accessFlags := 1, code := some k11c6 }
def k11c7 : Code := { maxStack := 1, maxLocals := 1, code := jdk_68_method_64_code, exceptionTable := #[], attributes := #[] }
def k11m7 : Method := { name := "getValue", desc := "()[B", sig := { parameters := [], returnType := some (.array .byte) }, accessFlags := 16, code := some k11c7 }
def k11c8 : Code := { maxStack := 1, maxLocals := 1, code := jdk_68_method_68_code, exceptionTable := #[], attributes := #[] }
def k11m8 : Method := { name := "isLatin1", desc := "()Z", sig := { parameters := [], returnType := some .boolean }, accessFlags := 16, code := some k11c8 }
def k11c9 : Code := { maxStack := 2, maxLocals := 2, code := jdk_68_method_71_code, exceptionTable := #[], attributes := #[] }
def k11m9 : Method := { name := "inflateIfNeededFor", desc := "(Ljava/lang/String;)V", sig := { parameters := [(.object "java/lang/String")], returnType := none }, accessFlags := 2, code := some k11c9 }
def k11c10 : Code := { maxStack := 4, maxLocals := 3, code := jdk_68_method_73_code, exceptionTable := #[], attributes := #[] }
def k11m10 : Method := { name := "putStringAt", desc := "(ILjava/lang/String;)V", sig := { parameters := [.int, (.object "java/lang/String")], returnType := none }, accessFlags := 2, code := some k11c10 }
/-- java/lang/AbstractStringBuilder -/
def k11 : Class := { plain "java/lang/AbstractStringBuilder" (some 0) with
  accessFlags := 1056
  interfaces := #[10, 4]
  cf := some (fileOf pool11 10 #[] #[{ accessFlags := 0, nameIndex := 7, descriptorIndex := 8, attributes := #[] }, { accessFlags := 0, nameIndex := 7, descriptorIndex := 103, attributes := #[] }, { accessFlags := 1, nameIndex := 34, descriptorIndex := 35, attributes := #[] }, { accessFlags := 2, nameIndex := 102, descriptorIndex := 103, attributes := #[] }, { accessFlags := 2, nameIndex := 106, descriptorIndex := 107, attributes := #[] }, { accessFlags := 1, nameIndex := 45, descriptorIndex := 46, attributes := #[] }, { accessFlags := 1, nameIndex := 45, descriptorIndex := 511, attributes := #[] }, { accessFlags := 16, nameIndex := 552, descriptorIndex := 403, attributes := #[] }, { accessFlags := 16, nameIndex := 85, descriptorIndex := 86, attributes := #[] }, { accessFlags := 2, nameIndex := 217, descriptorIndex := 69, attributes := #[] }, { accessFlags := 2, nameIndex := 210, descriptorIndex := 211, attributes := #[] }] 1056 4 #[444, 48] #[{ accessFlags := 0, nameIndex := 17, descriptorIndex := 14, attributes := #[] }, { accessFlags := 0, nameIndex := 24, descriptorIndex := 25, attributes := #[] }, { accessFlags := 0, nameIndex := 75, descriptorIndex := 21, attributes := #[] }, { accessFlags := 0, nameIndex := 81, descriptorIndex := 82, attributes := #[] }, { accessFlags := 26, nameIndex := 13, descriptorIndex := 14, attributes := #[] }])
  fields := #[{ name := "value", type := (.array .byte), accessFlags := 0, slot := 0, constantValue := 0 }, { name := "coder", type := .byte, accessFlags := 0, slot := 1, constantValue := 0 }, { name := "maybeLatin1", type := .boolean, accessFlags := 0, slot := 2, constantValue := 0 }, { name := "count", type := .int, accessFlags := 0, slot := 3, constantValue := 0 }, { name := "EMPTYVALUE", type := (.array .byte), accessFlags := 26, slot := 0, constantValue := 0 }]
  methods := #[k11m0, k11m1, k11m2, k11m3, k11m4, k11m5, k11m6, k11m7, k11m8, k11m9, k11m10]
  instanceTypes := #[(.array .byte), .byte, .boolean, .int]
  staticTypes := #[(.array .byte)]
  resolved := Array.replicate 609 none
  statics := none }

def pool12 : Array CpInfo := pool [(1, .methodref 2 3), (0, .class_ 4), (0, .nameAndType 5 6), (0, u "java/lang/AbstractStringBuilder"), (0, u "<init>"), (0, u "(I)V"), (11, .class_ 20), (1, u "java/lang/String"), (3, .class_ 26), (1, u "java/lang/StringBuilder"), (0, u "append"), (0, u "(Ljava/lang/String;)Ljava/lang/StringBuilder;"), (0, .methodref 2 30), (0, .nameAndType 27 31), (0, u "(Ljava/lang/String;)Ljava/lang/AbstractStringBuilder;"), (21, .methodref 2 54), (0, .nameAndType 27 55), (0, u "(I)Ljava/lang/AbstractStringBuilder;"), (81, .methodref 18 138), (0, .nameAndType 5 139), (0, u "(Ljava/lang/StringBuilder;)V"), (5, u "()V"), (10, u "()I"), (111, u "(I)Ljava/lang/StringBuilder;"), (74, .methodref 2 344), (0, .nameAndType 345 156), (0, u "length"), (3, .class_ 350), (0, u "java/lang/Appendable"), (0, .class_ 352), (0, u "java/io/Serializable"), (0, .class_ 354), (0, u "java/lang/Comparable"), (0, .class_ 356), (0, u "java/lang/CharSequence"), (0, u "serialVersionUID"), (0, u "J"), (40, u "toString"), (0, u "()Ljava/lang/String;")] 21

def k12c0 : Code := { maxStack := 2, maxLocals := 1, code := jdk_67_method_1_code, exceptionTable := #[], attributes := #[] }
def k12m0 : Method := { name := "<init>", desc := "()V", sig := { parameters := [], returnType := none }, accessFlags := 1, code := some k12c0 }
def k12c1 : Code := { maxStack := 2, maxLocals := 2, code := jdk_67_method_7_code, exceptionTable := #[], attributes := #[] }
def k12m1 : Method := { name := "append", desc := "(Ljava/lang/String;)Ljava/lang/StringBuilder;", sig := { parameters := [(.object "java/lang/String")], returnType := some (.object "java/lang/StringBuilder") }, accessFlags := 1, code := some k12c1 }
def k12c2 : Code := { maxStack := 2, maxLocals := 2, code := jdk_67_method_15_code, exceptionTable := #[], attributes := #[] }
def k12m2 : Method := { name := "append", desc := "(I)Ljava/lang/StringBuilder;", sig := { parameters := [.int], returnType := some (.object "java/lang/StringBuilder") }, accessFlags := 1, code := some k12c2 }
def k12c3 : Code := { maxStack := 3, maxLocals := 1, code := jdk_67_method_42_code, exceptionTable := #[], attributes := #[] }
def k12m3 : Method := { name := "toString", desc := "()Ljava/lang/String;", sig := { parameters := [], returnType := some (.object "java/lang/String") }, accessFlags := 1, code := some k12c3 }
def k12c4 : Code := { maxStack := 1, maxLocals := 1, code := jdk_67_method_93_code, exceptionTable := #[], attributes := #[] }
def k12m4 : Method := { name := "length", desc := "()I", sig := { parameters := [], returnType := some .int }, accessFlags := 4161, code := some k12c4 }
/-- java/lang/StringBuilder -/
def k12 : Class := { plain "java/lang/StringBuilder" (some 11) with
  accessFlags := 49
  interfaces := #[10, 2, 3, 4]
  cf := some (fileOf pool12 24 #[] #[{ accessFlags := 1, nameIndex := 5, descriptorIndex := 145, attributes := #[] }, { accessFlags := 1, nameIndex := 27, descriptorIndex := 28, attributes := #[] }, { accessFlags := 1, nameIndex := 27, descriptorIndex := 268, attributes := #[] }, { accessFlags := 1, nameIndex := 399, descriptorIndex := 400, attributes := #[] }, { accessFlags := 4161, nameIndex := 345, descriptorIndex := 156, attributes := #[] }] 49 2 #[349, 351, 353, 355] #[{ accessFlags := 24, nameIndex := 357, descriptorIndex := 358, attributes := #[] }])
  fields := #[{ name := "serialVersionUID", type := .long, accessFlags := 24, slot := 0, constantValue := 0 }]
  methods := #[k12m0, k12m1, k12m2, k12m3, k12m4]
  instanceTypes := #[(.array .byte), .byte, .boolean, .int]
  staticTypes := #[.long]
  resolved := Array.replicate 422 none
  statics := none }

def pool13 : Array CpInfo := pool [(2, .class_ 4), (1, u "java/lang/Object"), (0, u "<init>"), (0, u "()V"), (1, .class_ 10), (1, u "java/lang/System"), (0, u "allowSecurityManager"), (0, u "I"), (16, u "cons"), (0, u "Ljava/io/Console;"), (77, .class_ 110), (1, u "java/lang/System$CallersHolder"), (43, u "initialErrStream"), (0, u "Ljava/io/PrintStream;"), (19, u "security"), (0, u "Ljava/lang/SecurityManager;"), (31, .class_ 209), (0, u "java/lang/System$1"), (7, u "props"), (0, u "Ljava/util/Properties;"), (2, u "lineSeparator"), (0, u "Ljava/lang/String;"), (96, .class_ 321), (1, u "java/lang/System$LoggerFinder"), (5, .class_ 328), (0, u "java/lang/System$Logger"), (67, u "err"), (2, u "out"), (91, u "notSupportedJnuEncoding"), (15, u "in"), (17, u "initialIn"), (0, u "Ljava/io/InputStream;"), (35, u "bootLayer"), (0, u "Ljava/lang/ModuleLayer;"), (99, .class_ 664), (0, u "java/lang/System$2"), (9, u "NEVER"), (2, u "MAYBE"), (49, u "arraycopy"), (0, u "(Ljava/lang/Object;ILjava/lang/Object;II)V"), (72, .class_ 802), (0, u "java/lang/System$Logger$Level")] 31

def k13m0 : Method := { name := "<init>", desc := "()V", sig := { parameters := [], returnType := none }, accessFlags := 2, code := none }
def k13m1 : Method := { name := "arraycopy", desc := "(Ljava/lang/Object;ILjava/lang/Object;II)V", sig := { parameters := [(.object "java/lang/Object"), .int, (.object "java/lang/Object"), .int, .int], returnType := none }, accessFlags := 265, code := none }
/-- java/lang/System -/
def k13 : Class := { plain "java/lang/System" (some 0) with
  accessFlags := 49
  interfaces := #[]
  cf := some (fileOf pool13 8 #[.nestMembers #[319, 327, 801, 108, 663, 208]] #[{ accessFlags := 2, nameIndex := 5, descriptorIndex := 6, attributes := #[] }, { accessFlags := 265, nameIndex := 727, descriptorIndex := 728, attributes := #[] }] 49 2 #[] #[{ accessFlags := 25, nameIndex := 507, descriptorIndex := 526, attributes := #[] }, { accessFlags := 25, nameIndex := 399, descriptorIndex := 155, attributes := #[] }, { accessFlags := 25, nameIndex := 396, descriptorIndex := 155, attributes := #[] }, { accessFlags := 10, nameIndex := 525, descriptorIndex := 526, attributes := #[] }, { accessFlags := 26, nameIndex := 674, descriptorIndex := 12, attributes := #[] }, { accessFlags := 26, nameIndex := 677, descriptorIndex := 12, attributes := #[] }, { accessFlags := 10, nameIndex := 11, descriptorIndex := 12, attributes := #[] }, { accessFlags := 74, nameIndex := 175, descriptorIndex := 176, attributes := #[] }, { accessFlags := 10, nameIndex := 491, descriptorIndex := 222, attributes := #[] }, { accessFlags := 74, nameIndex := 29, descriptorIndex := 30, attributes := #[] }, { accessFlags := 74, nameIndex := 154, descriptorIndex := 155, attributes := #[] }, { accessFlags := 10, nameIndex := 217, descriptorIndex := 218, attributes := #[] }, { accessFlags := 10, nameIndex := 221, descriptorIndex := 222, attributes := #[] }, { accessFlags := 8, nameIndex := 562, descriptorIndex := 563, attributes := #[] }])
  fields := #[{ name := "in", type := (.object "java/io/InputStream"), accessFlags := 25, slot := 0, constantValue := 0 }, { name := "out", type := (.object "java/io/PrintStream"), accessFlags := 25, slot := 1, constantValue := 0 }, { name := "err", type := (.object "java/io/PrintStream"), accessFlags := 25, slot := 2, constantValue := 0 }, { name := "initialIn", type := (.object "java/io/InputStream"), accessFlags := 10, slot := 3, constantValue := 0 }, { name := "NEVER", type := .int, accessFlags := 26, slot := 4, constantValue := 0 }, { name := "MAYBE", type := .int, accessFlags := 26, slot := 5, constantValue := 0 }, { name := "allowSecurityManager", type := .int, accessFlags := 10, slot := 6, constantValue := 0 }, { name := "security", type := (.object "java/lang/SecurityManager"), accessFlags := 74, slot := 7, constantValue := 0 }, { name := "notSupportedJnuEncoding", type := (.object "java/lang/String"), accessFlags := 10, slot := 8, constantValue := 0 }, { name := "cons", type := (.object "java/io/Console"), accessFlags := 74, slot := 9, constantValue := 0 }, { name := "initialErrStream", type := (.object "java/io/PrintStream"), accessFlags := 74, slot := 10, constantValue := 0 }, { name := "props", type := (.object "java/util/Properties"), accessFlags := 10, slot := 11, constantValue := 0 }, { name := "lineSeparator", type := (.object "java/lang/String"), accessFlags := 10, slot := 12, constantValue := 0 }, { name := "bootLayer", type := (.object "java/lang/ModuleLayer"), accessFlags := 8, slot := 13, constantValue := 0 }]
  methods := #[k13m0, k13m1]
  instanceTypes := #[]
  staticTypes := #[(.object "java/io/InputStream"), (.object "java/io/PrintStream"), (.object "java/io/PrintStream"), (.object "java/io/InputStream"), .int, .int, .int, (.object "java/lang/SecurityManager"), (.object "java/lang/String"), (.object "java/io/Console"), (.object "java/io/PrintStream"), (.object "java/util/Properties"), (.object "java/lang/String"), (.object "java/lang/ModuleLayer")]
  resolved := Array.replicate 834 none
  statics := none }

def pool14 : Array CpInfo := pool [(2, .class_ 4), (1, u "java/lang/Object"), (0, u "<init>"), (0, u "()V"), (1, .class_ 10), (1, u "java/lang/Number"), (2, .class_ 14), (0, u "java/io/Serializable"), (0, u "serialVersionUID"), (0, u "J")] 20

def k14m0 : Method := { name := "<init>", desc := "()V", sig := { parameters := [], returnType := none }, accessFlags := 1, code := none }
/-- java/lang/Number -/
def k14 : Class := { plain "java/lang/Number" (some 0) with
  accessFlags := 1057
  interfaces := #[2]
  cf := some (fileOf pool14 8 #[] #[{ accessFlags := 1, nameIndex := 5, descriptorIndex := 6, attributes := #[] }] 1057 2 #[13] #[{ accessFlags := 26, nameIndex := 15, descriptorIndex := 16, attributes := #[] }])
  fields := #[{ name := "serialVersionUID", type := .long, accessFlags := 26, slot := 0, constantValue := 0 }]
  methods := #[k14m0]
  instanceTypes := #[]
  staticTypes := #[.long]
  resolved := Array.replicate 37 none
  statics := none }

def pool15 : Array CpInfo := pool [(1, .class_ 2), (0, u "java/lang/Integer"), (16, u "digits"), (0, u "[C"), (33, u "(I)I"), (19, u "stringSize"), (2, u "getChars"), (0, u "(II[B)I"), (4, .fieldref 1 84), (0, .nameAndType 85 86), (0, u "DigitOnes"), (0, u "[B"), (0, .fieldref 1 88), (0, .nameAndType 89 86), (0, u "DigitTens"), (99, .class_ 190), (0, u "java/lang/Integer$IntegerCache"), (3, u "I"), (8, .class_ 204), (0, u "java/lang/Number"), (2, u "value"), (94, u "TYPE"), (0, u "Ljava/lang/Class;"), (0, .class_ 305), (0, u "java/lang/Comparable"), (0, .class_ 307), (0, u "java/lang/constant/Constable"), (0, .class_ 309), (0, u "java/lang/constant/ConstantDesc"), (0, u "MIN_VALUE"), (1, u "MAX_VALUE"), (3, u "SIZE"), (1, u "BYTES"), (1, u "serialVersionUID"), (0, u "J")] 131

def k15c0 : Code := { maxStack := 4, maxLocals := 7, code := jdk_33_method_12_code, exceptionTable := #[], attributes := #[] }
def k15m0 : Method := { name := "getChars", desc := "(II[B)I", sig := { parameters := [.int, .int, (.array .byte)], returnType := some .int }, accessFlags := 8, code := some k15c0 }
def k15c1 : Code := { maxStack := 2, maxLocals := 4, code := jdk_33_method_13_code, exceptionTable := #[], attributes := #[] }
def k15m1 : Method := { name := "stringSize", desc := "(I)I", sig := { parameters := [.int], returnType := some .int }, accessFlags := 8, code := some k15c1 }
/-- java/lang/Integer -/
def k15 : Class := { plain "java/lang/Integer" (some 14) with
  accessFlags := 49
  interfaces := #[3, 5, 6]
  cf := some (fileOf pool15 1 #[.nestMembers #[189]] #[{ accessFlags := 8, nameIndex := 77, descriptorIndex := 78, attributes := #[] }, { accessFlags := 8, nameIndex := 74, descriptorIndex := 54, attributes := #[] }] 49 203 #[304, 306, 308] #[{ accessFlags := 25, nameIndex := 310, descriptorIndex := 194, attributes := #[] }, { accessFlags := 25, nameIndex := 312, descriptorIndex := 194, attributes := #[] }, { accessFlags := 25, nameIndex := 302, descriptorIndex := 303, attributes := #[] }, { accessFlags := 24, nameIndex := 19, descriptorIndex := 20, attributes := #[] }, { accessFlags := 24, nameIndex := 89, descriptorIndex := 86, attributes := #[] }, { accessFlags := 24, nameIndex := 85, descriptorIndex := 86, attributes := #[] }, { accessFlags := 18, nameIndex := 207, descriptorIndex := 194, attributes := #[] }, { accessFlags := 25, nameIndex := 316, descriptorIndex := 194, attributes := #[] }, { accessFlags := 25, nameIndex := 318, descriptorIndex := 194, attributes := #[] }, { accessFlags := 26, nameIndex := 320, descriptorIndex := 321, attributes := #[] }])
  fields := #[{ name := "MIN_VALUE", type := .int, accessFlags := 25, slot := 0, constantValue := 0 }, { name := "MAX_VALUE", type := .int, accessFlags := 25, slot := 1, constantValue := 0 }, { name := "TYPE", type := (.object "java/lang/Class"), accessFlags := 25, slot := 2, constantValue := 0 }, { name := "digits", type := (.array .char), accessFlags := 24, slot := 3, constantValue := 0 }, { name := "DigitTens", type := (.array .byte), accessFlags := 24, slot := 4, constantValue := 0 }, { name := "DigitOnes", type := (.array .byte), accessFlags := 24, slot := 5, constantValue := 0 }, { name := "value", type := .int, accessFlags := 18, slot := 0, constantValue := 0 }, { name := "SIZE", type := .int, accessFlags := 25, slot := 6, constantValue := 0 }, { name := "BYTES", type := .int, accessFlags := 25, slot := 7, constantValue := 0 }, { name := "serialVersionUID", type := .long, accessFlags := 26, slot := 8, constantValue := 0 }]
  methods := #[k15m0, k15m1]
  instanceTypes := #[.int]
  staticTypes := #[.int, .int, (.object "java/lang/Class"), (.array .char), (.array .byte), (.array .byte), .int, .int, .long]
  resolved := Array.replicate 453 none
  statics := some 1 }

def pool16 : Array CpInfo := pool [(9, u "<init>"), (6, .class_ 18), (1, u "java/lang/Object"), (0, u "()V"), (1, .class_ 23), (1, u "jdk/internal/util/ArraysSupport"), (0, u "LOG2_ARRAY_LONG_INDEX_SCALE"), (0, u "I"), (2, u "U"), (0, u "Ljdk/internal/misc/Unsafe;"), (8, u "BIG_ENDIAN"), (0, u "Z"), (8, u "LOG2_BYTE_BIT_SIZE"), (4, u "LOG2_ARRAY_INT_INDEX_SCALE"), (54, u "JLA"), (0, u "Ljdk/internal/access/JavaLangAccess;"), (11, u "LOG2_ARRAY_BOOLEAN_INDEX_SCALE"), (9, u "LOG2_ARRAY_BYTE_INDEX_SCALE"), (5, u "LOG2_ARRAY_CHAR_INDEX_SCALE"), (5, u "LOG2_ARRAY_SHORT_INDEX_SCALE"), (18, u "LOG2_ARRAY_FLOAT_INDEX_SCALE"), (24, u "LOG2_ARRAY_DOUBLE_INDEX_SCALE"), (6, .methodref 195 196), (0, .class_ 197), (0, .nameAndType 198 199), (0, u "java/lang/Math"), (0, u "max"), (0, u "(II)I"), (0, .integer 2147483639), (76, u "T_BOOLEAN"), (2, u "T_CHAR"), (1, u "T_FLOAT"), (1, u "T_DOUBLE"), (1, u "T_BYTE"), (1, u "T_SHORT"), (1, u "T_INT"), (1, u "T_LONG"), (1, u "SOFT_MAX_ARRAY_LENGTH"), (56, u "newLength"), (0, u "(III)I")] 25

def k16m0 : Method := { name := "<init>", desc := "()V", sig := { parameters := [], returnType := none }, accessFlags := 2, code := none }
def k16c1 : Code := { maxStack := 3, maxLocals := 4, code := jdk_48_method_27_code, exceptionTable := #[], attributes := #[] }
def k16m1 : Method := { name := "newLength", desc := "(III)I", sig := { parameters := [.int, .int, .int], returnType := some .int }, accessFlags := 9, code := some k16c1 }
/-- jdk/internal/util/ArraysSupport -/
def k16 : Class := { plain "jdk/internal/util/ArraysSupport" (some 0) with
  accessFlags := 33
  interfaces := #[]
  cf := some (fileOf pool16 21 #[] #[{ accessFlags := 2, nameIndex := 9, descriptorIndex := 19, attributes := #[] }, { accessFlags := 9, nameIndex := 351, descriptorIndex := 352, attributes := #[] }] 33 16 #[] #[{ accessFlags := 24, nameIndex := 28, descriptorIndex := 29, attributes := #[] }, { accessFlags := 26, nameIndex := 38, descriptorIndex := 39, attributes := #[] }, { accessFlags := 25, nameIndex := 121, descriptorIndex := 25, attributes := #[] }, { accessFlags := 25, nameIndex := 131, descriptorIndex := 25, attributes := #[] }, { accessFlags := 25, nameIndex := 137, descriptorIndex := 25, attributes := #[] }, { accessFlags := 25, nameIndex := 143, descriptorIndex := 25, attributes := #[] }, { accessFlags := 25, nameIndex := 53, descriptorIndex := 25, attributes := #[] }, { accessFlags := 25, nameIndex := 24, descriptorIndex := 25, attributes := #[] }, { accessFlags := 25, nameIndex := 162, descriptorIndex := 25, attributes := #[] }, { accessFlags := 25, nameIndex := 187, descriptorIndex := 25, attributes := #[] }, { accessFlags := 26, nameIndex := 48, descriptorIndex := 25, attributes := #[] }, { accessFlags := 25, nameIndex := 277, descriptorIndex := 25, attributes := #[] }, { accessFlags := 25, nameIndex := 280, descriptorIndex := 25, attributes := #[] }, { accessFlags := 25, nameIndex := 282, descriptorIndex := 25, attributes := #[] }, { accessFlags := 25, nameIndex := 284, descriptorIndex := 25, attributes := #[] }, { accessFlags := 25, nameIndex := 286, descriptorIndex := 25, attributes := #[] }, { accessFlags := 25, nameIndex := 288, descriptorIndex := 25, attributes := #[] }, { accessFlags := 25, nameIndex := 290, descriptorIndex := 25, attributes := #[] }, { accessFlags := 25, nameIndex := 292, descriptorIndex := 25, attributes := #[] }, { accessFlags := 26, nameIndex := 108, descriptorIndex := 109, attributes := #[] }, { accessFlags := 25, nameIndex := 294, descriptorIndex := 25, attributes := #[] }])
  fields := #[{ name := "U", type := (.object "jdk/internal/misc/Unsafe"), accessFlags := 24, slot := 0, constantValue := 0 }, { name := "BIG_ENDIAN", type := .boolean, accessFlags := 26, slot := 1, constantValue := 0 }, { name := "LOG2_ARRAY_BOOLEAN_INDEX_SCALE", type := .int, accessFlags := 25, slot := 2, constantValue := 0 }, { name := "LOG2_ARRAY_BYTE_INDEX_SCALE", type := .int, accessFlags := 25, slot := 3, constantValue := 0 }, { name := "LOG2_ARRAY_CHAR_INDEX_SCALE", type := .int, accessFlags := 25, slot := 4, constantValue := 0 }, { name := "LOG2_ARRAY_SHORT_INDEX_SCALE", type := .int, accessFlags := 25, slot := 5, constantValue := 0 }, { name := "LOG2_ARRAY_INT_INDEX_SCALE", type := .int, accessFlags := 25, slot := 6, constantValue := 0 }, { name := "LOG2_ARRAY_LONG_INDEX_SCALE", type := .int, accessFlags := 25, slot := 7, constantValue := 0 }, { name := "LOG2_ARRAY_FLOAT_INDEX_SCALE", type := .int, accessFlags := 25, slot := 8, constantValue := 0 }, { name := "LOG2_ARRAY_DOUBLE_INDEX_SCALE", type := .int, accessFlags := 25, slot := 9, constantValue := 0 }, { name := "LOG2_BYTE_BIT_SIZE", type := .int, accessFlags := 26, slot := 10, constantValue := 0 }, { name := "T_BOOLEAN", type := .int, accessFlags := 25, slot := 11, constantValue := 0 }, { name := "T_CHAR", type := .int, accessFlags := 25, slot := 12, constantValue := 0 }, { name := "T_FLOAT", type := .int, accessFlags := 25, slot := 13, constantValue := 0 }, { name := "T_DOUBLE", type := .int, accessFlags := 25, slot := 14, constantValue := 0 }, { name := "T_BYTE", type := .int, accessFlags := 25, slot := 15, constantValue := 0 }, { name := "T_SHORT", type := .int, accessFlags := 25, slot := 16, constantValue := 0 }, { name := "T_INT", type := .int, accessFlags := 25, slot := 17, constantValue := 0 }, { name := "T_LONG", type := .int, accessFlags := 25, slot := 18, constantValue := 0 }, { name := "JLA", type := (.object "jdk/internal/access/JavaLangAccess"), accessFlags := 26, slot := 19, constantValue := 0 }, { name := "SOFT_MAX_ARRAY_LENGTH", type := .int, accessFlags := 25, slot := 20, constantValue := 0 }]
  methods := #[k16m0, k16m1]
  instanceTypes := #[]
  staticTypes := #[(.object "jdk/internal/misc/Unsafe"), .boolean, .int, .int, .int, .int, .int, .int, .int, .int, .int, .int, .int, .int, .int, .int, .int, .int, .int, (.object "jdk/internal/access/JavaLangAccess"), .int]
  resolved := Array.replicate 378 none
  statics := none }

def pool17 : Array CpInfo := pool [(1, .class_ 2), (0, u "java/lang/Math"), (1, .class_ 6), (1, u "java/lang/Object"), (0, u "<init>"), (0, u "()V"), (89, .class_ 100), (1, u "java/lang/Math$RandomNumberGeneratorHolder"), (71, u "negativeZeroFloatBits"), (0, u "J"), (2, u "negativeZeroDoubleBits"), (21, u "max"), (2, u "min"), (43, u "$assertionsDisabled"), (0, u "Z"), (88, u "(II)I"), (2, u "twoToTheDoubleScaleDown"), (0, u "D"), (4, u "twoToTheDoubleScaleUp"), (9, u "E"), (3, u "PI"), (2, u "TAU"), (2, u "DEGREES_TO_RADIANS"), (0, u "RADIANS_TO_DEGREES")] 94

def k17m0 : Method := { name := "<init>", desc := "()V", sig := { parameters := [], returnType := none }, accessFlags := 2, code := none }
def k17c1 : Code := { maxStack := 2, maxLocals := 2, code := jdk_29_method_65_code, exceptionTable := #[], attributes := #[] }
def k17m1 : Method := { name := "max", desc := "(II)I", sig := { parameters := [.int, .int], returnType := some .int }, accessFlags := 9, code := some k17c1 }
def k17c2 : Code := { maxStack := 2, maxLocals := 2, code := jdk_29_method_69_code, exceptionTable := #[], attributes := #[] }
def k17m2 : Method := { name := "min", desc := "(II)I", sig := { parameters := [.int, .int], returnType := some .int }, accessFlags := 9, code := some k17c2 }
/-- java/lang/Math -/
def k17 : Class := { plain "java/lang/Math" (some 0) with
  accessFlags := 49
  interfaces := #[]
  cf := some (fileOf pool17 1 #[.nestMembers #[98]] #[{ accessFlags := 2, nameIndex := 7, descriptorIndex := 8, attributes := #[] }, { accessFlags := 9, nameIndex := 198, descriptorIndex := 335, attributes := #[] }, { accessFlags := 9, nameIndex := 201, descriptorIndex := 335, attributes := #[] }] 49 4 #[] #[{ accessFlags := 25, nameIndex := 354, descriptorIndex := 339, attributes := #[] }, { accessFlags := 25, nameIndex := 358, descriptorIndex := 339, attributes := #[] }, { accessFlags := 25, nameIndex := 361, descriptorIndex := 339, attributes := #[] }, { accessFlags := 26, nameIndex := 364, descriptorIndex := 339, attributes := #[] }, { accessFlags := 26, nameIndex := 365, descriptorIndex := 339, attributes := #[] }, { accessFlags := 26, nameIndex := 172, descriptorIndex := 173, attributes := #[] }, { accessFlags := 26, nameIndex := 176, descriptorIndex := 173, attributes := #[] }, { accessFlags := 8, nameIndex := 344, descriptorIndex := 339, attributes := #[] }, { accessFlags := 8, nameIndex := 338, descriptorIndex := 339, attributes := #[] }, { accessFlags := 4120, nameIndex := 245, descriptorIndex := 246, attributes := #[] }])
  fields := #[{ name := "E", type := .double, accessFlags := 25, slot := 0, constantValue := 0 }, { name := "PI", type := .double, accessFlags := 25, slot := 1, constantValue := 0 }, { name := "TAU", type := .double, accessFlags := 25, slot := 2, constantValue := 0 }, { name := "DEGREES_TO_RADIANS", type := .double, accessFlags := 26, slot := 3, constantValue := 0 }, { name := "RADIANS_TO_DEGREES", type := .double, accessFlags := 26, slot := 4, constantValue := 0 }, { name := "negativeZeroFloatBits", type := .long, accessFlags := 26, slot := 5, constantValue := 0 }, { name := "negativeZeroDoubleBits", type := .long, accessFlags := 26, slot := 6, constantValue := 0 }, { name := "twoToTheDoubleScaleUp", type := .double, accessFlags := 8, slot := 7, constantValue := 0 }, { name := "twoToTheDoubleScaleDown", type := .double, accessFlags := 8, slot := 8, constantValue := 0 }, { name := "$assertionsDisabled", type := .boolean, accessFlags := 4120, slot := 9, constantValue := 0 }]
  methods := #[k17m0, k17m1, k17m2]
  instanceTypes := #[]
  staticTypes := #[.double, .double, .double, .double, .double, .long, .long, .double, .double, .boolean]
  resolved := Array.replicate 460 none
  statics := none }

def pool18 : Array CpInfo := pool [(2, .class_ 4), (1, u "java/lang/Object"), (0, u "<init>"), (0, u "()V"), (7, .class_ 16), (1, u "java/util/Arrays"), (57, .class_ 76), (1, u "java/util/Arrays$NaturalOrder"), (32, u "()Ljava/lang/Object;"), (3, .class_ 115), (1, u "java/util/Arrays$LegacyMergeSort"), (1, u "Z"), (10, .nameAndType 129 109), (0, u "clone"), (9, u "copyOfRange"), (10, .methodref 151 152), (0, .class_ 153), (0, .nameAndType 154 155), (0, u "java/lang/System"), (0, u "arraycopy"), (0, u "(Ljava/lang/Object;ILjava/lang/Object;II)V"), (146, u "copyOf"), (1, .methodref 305 306), (0, .class_ 307), (0, .nameAndType 308 309), (0, u "java/lang/Math"), (0, u "min"), (0, u "(II)I"), (0, .methodref 311 128), (0, .class_ 312), (0, u "[B"), (26, .methodref 14 340), (0, .nameAndType 341 342), (0, u "copyOfRangeByte"), (0, u "([BII)[B"), (0, .methodref 14 344), (0, .nameAndType 345 346), (0, u "checkLength"), (0, u "(II)V"), (28, .class_ 376), (0, u "java/util/Arrays$ArrayList"), (68, u "$assertionsDisabled"), (269, u "MIN_ARRAY_SORT_GRAN"), (0, u "I"), (2, u "INSERTIONSORT_THRESHOLD"), (149, u "([BI)[B"), (105, .class_ 976), (0, u "java/util/Arrays$ArrayItr")] 52

def k18m0 : Method := { name := "<init>", desc := "()V", sig := { parameters := [], returnType := none }, accessFlags := 2, code := none }
def k18c1 : Code := { maxStack := 6, maxLocals := 3, code := jdk_65_method_121_code, exceptionTable := #[], attributes := #[] }
def k18m1 : Method := { name := "copyOf", desc := "([BI)[B", sig := { parameters := [(.array .byte), .int], returnType := some (.array .byte) }, accessFlags := 9, code := some k18c1 }
def k18c2 : Code := { maxStack := 4, maxLocals := 2, code := jdk_65_method_131_code, exceptionTable := #[], attributes := #[] }
def k18m2 : Method := { name := "checkLength", desc := "(II)V", sig := { parameters := [.int, .int], returnType := none }, accessFlags := 10, code := some k18c2 }
def k18c3 : Code := { maxStack := 3, maxLocals := 3, code := jdk_65_method_132_code, exceptionTable := #[], attributes := #[] }
def k18m3 : Method := { name := "copyOfRange", desc := "([BII)[B", sig := { parameters := [(.array .byte), .int, .int], returnType := some (.array .byte) }, accessFlags := 9, code := some k18c3 }
def k18c4 : Code := { maxStack := 6, maxLocals := 5, code := jdk_65_method_133_code, exceptionTable := #[], attributes := #[] }
def k18m4 : Method := { name := "copyOfRangeByte", desc := "([BII)[B", sig := { parameters := [(.array .byte), .int, .int], returnType := some (.array .byte) }, accessFlags := 10, code := some k18c4 }
/-- java/util/Arrays -/
def k18 : Class := { plain "java/util/Arrays" (some 0) with
  accessFlags := 49
  interfaces := #[]
  cf := some (fileOf pool18 14 #[.nestMembers #[975, 375, 113, 74]] #[{ accessFlags := 2, nameIndex := 5, descriptorIndex := 6, attributes := #[] }, { accessFlags := 9, nameIndex := 302, descriptorIndex := 869, attributes := #[] }, { accessFlags := 10, nameIndex := 345, descriptorIndex := 346, attributes := #[] }, { accessFlags := 9, nameIndex := 139, descriptorIndex := 342, attributes := #[] }, { accessFlags := 10, nameIndex := 341, descriptorIndex := 342, attributes := #[] }] 49 2 #[] #[{ accessFlags := 26, nameIndex := 715, descriptorIndex := 716, attributes := #[] }, { accessFlags := 26, nameIndex := 719, descriptorIndex := 716, attributes := #[] }, { accessFlags := 4120, nameIndex := 445, descriptorIndex := 117, attributes := #[] }])
  fields := #[{ name := "MIN_ARRAY_SORT_GRAN", type := .int, accessFlags := 26, slot := 0, constantValue := 0 }, { name := "INSERTIONSORT_THRESHOLD", type := .int, accessFlags := 26, slot := 1, constantValue := 0 }, { name := "$assertionsDisabled", type := .boolean, accessFlags := 4120, slot := 2, constantValue := 0 }]
  methods := #[k18m0, k18m1, k18m2, k18m3, k18m4]
  instanceTypes := #[]
  staticTypes := #[.int, .int, .boolean]
  resolved := Array.replicate 1029 none
  statics := none }

def pool19 : Array CpInfo := pool [(2, .class_ 4), (1, u "java/lang/Object"), (0, u "<init>"), (0, u "()V"), (17, .class_ 26), (1, u "jdk/internal/util/Preconditions"), (6, u "checkIndex"), (21, .class_ 56), (0, u "jdk/internal/util/Preconditions$4"), (57, .class_ 115), (0, u "jdk/internal/util/Preconditions$1"), (7, u "SIOOBE_FORMATTER"), (0, u "Ljava/util/function/BiFunction;"), (0, .class_ 126), (0, u "jdk/internal/util/Preconditions$2"), (3, u "AIOOBE_FORMATTER"), (0, .class_ 132), (0, u "jdk/internal/util/Preconditions$3"), (3, u "IOOBE_FORMATTER"), (41, u "(IILjava/util/function/BiFunction;)I")] 15

def k19m0 : Method := { name := "<init>", desc := "()V", sig := { parameters := [], returnType := none }, accessFlags := 1, code := none }
def k19c1 : Code := { maxStack := 3, maxLocals := 3, code := jdk_41_method_11_code, exceptionTable := #[], attributes := #[] }
def k19m1 : Method := { name := "checkIndex", desc := "(IILjava/util/function/BiFunction;)I", sig := { parameters := [.int, .int, (.object "java/util/function/BiFunction")], returnType := some .int }, accessFlags := 9, code := some k19c1 }
/-- jdk/internal/util/Preconditions -/
def k19 : Class := { plain "jdk/internal/util/Preconditions" (some 0) with
  accessFlags := 33
  interfaces := #[]
  cf := some (fileOf pool19 24 #[.nestMembers #[55, 131, 125, 114]] #[{ accessFlags := 1, nameIndex := 5, descriptorIndex := 6, attributes := #[] }, { accessFlags := 9, nameIndex := 33, descriptorIndex := 178, attributes := #[] }] 33 2 #[] #[{ accessFlags := 25, nameIndex := 123, descriptorIndex := 124, attributes := #[] }, { accessFlags := 25, nameIndex := 130, descriptorIndex := 124, attributes := #[] }, { accessFlags := 25, nameIndex := 136, descriptorIndex := 124, attributes := #[] }])
  fields := #[{ name := "SIOOBE_FORMATTER", type := (.object "java/util/function/BiFunction"), accessFlags := 25, slot := 0, constantValue := 0 }, { name := "AIOOBE_FORMATTER", type := (.object "java/util/function/BiFunction"), accessFlags := 25, slot := 1, constantValue := 0 }, { name := "IOOBE_FORMATTER", type := (.object "java/util/function/BiFunction"), accessFlags := 25, slot := 2, constantValue := 0 }]
  methods := #[k19m0, k19m1]
  instanceTypes := #[]
  staticTypes := #[(.object "java/util/function/BiFunction"), (.object "java/util/function/BiFunction"), (.object "java/util/function/BiFunction")]
  resolved := Array.replicate 194 none
  statics := some 2 }

def pool20 : Array CpInfo := pool [(6, .class_ 8), (1, u "java/lang/Object"), (0, u "<init>"), (0, u "()V"), (1, .class_ 14), (1, u "java/lang/StringUTF16"), (31, u "$assertionsDisabled"), (0, u "Z"), (13, u "HI_BYTE_SHIFT"), (0, u "I"), (2, u "LO_BYTE_SHIFT"), (49, .methodref 12 116), (0, .nameAndType 117 118), (0, u "compress"), (0, u "([CI[BII)I"), (3, u "([CII)[B"), (138, u "coderFromArrayLen"), (0, u "([BI)B"), (106, .class_ 371), (1, u "java/lang/StringUTF16$LinesSpliterator"), (58, u "MAX_LENGTH"), (196, .class_ 628), (0, u "java/lang/StringUTF16$CodePointsSpliterator"), (0, .class_ 630), (0, u "java/lang/StringUTF16$CharsSpliterator")] 4

def k20m0 : Method := { name := "<init>", desc := "()V", sig := { parameters := [], returnType := none }, accessFlags := 0, code := none }
def k20c1 : Code := { maxStack := 2, maxLocals := 2, code := jdk_52_method_15_code, exceptionTable := #[], attributes := #[] }
def k20m1 : Method := { name := "coderFromArrayLen", desc := "([BI)B", sig := { parameters := [(.array .byte), .int], returnType := some .byte }, accessFlags := 8, code := some k20c1 }
def k20c2 : Code := { maxStack := 5, maxLocals := 6, code := jdk_52_method_16_code, exceptionTable := #[], attributes := #[] }
def k20m2 : Method := { name := "compress", desc := "([CII)[B", sig := { parameters := [(.array .char), .int, .int], returnType := some (.array .byte) }, accessFlags := 9, code := some k20c2 }
def k20c3 : Code := { maxStack := 3, maxLocals := 7, code := jdk_52_method_21_code, exceptionTable := #[], attributes := #[] }
def k20m3 : Method := { name := "compress", desc := "([CI[BII)I", sig := { parameters := [(.array .char), .int, (.array .byte), .int, .int], returnType := some .int }, accessFlags := 9, code := some k20c3 }
/-- java/lang/StringUTF16 -/
def k20 : Class := { plain "java/lang/StringUTF16" (some 0) with
  accessFlags := 48
  interfaces := #[]
  cf := some (fileOf pool20 12 #[.nestMembers #[627, 629, 369]] #[{ accessFlags := 0, nameIndex := 9, descriptorIndex := 10, attributes := #[] }, { accessFlags := 8, nameIndex := 261, descriptorIndex := 262, attributes := #[] }, { accessFlags := 9, nameIndex := 117, descriptorIndex := 122, attributes := #[] }, { accessFlags := 9, nameIndex := 117, descriptorIndex := 118, attributes := #[] }] 48 6 #[] #[{ accessFlags := 26, nameIndex := 61, descriptorIndex := 62, attributes := #[] }, { accessFlags := 26, nameIndex := 65, descriptorIndex := 62, attributes := #[] }, { accessFlags := 24, nameIndex := 430, descriptorIndex := 62, attributes := #[] }, { accessFlags := 4120, nameIndex := 46, descriptorIndex := 47, attributes := #[] }])
  fields := #[{ name := "HI_BYTE_SHIFT", type := .int, accessFlags := 26, slot := 0, constantValue := 0 }, { name := "LO_BYTE_SHIFT", type := .int, accessFlags := 26, slot := 1, constantValue := 0 }, { name := "MAX_LENGTH", type := .int, accessFlags := 24, slot := 2, constantValue := 0 }, { name := "$assertionsDisabled", type := .boolean, accessFlags := 4120, slot := 3, constantValue := 0 }]
  methods := #[k20m0, k20m1, k20m2, k20m3]
  instanceTypes := #[]
  staticTypes := #[.int, .int, .int, .boolean]
  resolved := Array.replicate 635 none
  statics := none }

def pool21 : Array CpInfo := pool [(1, .class_ 2), (0, u "java/lang/Cloneable"), (0, .class_ 4), (0, u "java/lang/Object")] 2

/-- java/lang/Cloneable -/
def k21 : Class := { plain "java/lang/Cloneable" (some 0) with
  accessFlags := 1537
  interfaces := #[]
  cf := some (fileOf pool21 1 #[] #[] 1537 3 #[] #[])
  fields := #[]
  methods := #[]
  instanceTypes := #[]
  staticTypes := #[]
  resolved := Array.replicate 7 none
  statics := none }

/-- the primitive byte -/
def k22 : Class := { plain "byte" none with kind := .primitive 'B', accessFlags := 0x411 }
/-- [B -/
def k23 : Class := { plain "[B" (some 0) with kind := .array 22 .byte, interfaces := #[21, 2], accessFlags := 1041 }

/-- the primitive char -/
def k24 : Class := { plain "char" none with kind := .primitive 'C', accessFlags := 0x411 }
/-- [C -/
def k25 : Class := { plain "[C" (some 0) with kind := .array 24 .char, interfaces := #[21, 2], accessFlags := 1041 }

/-- the primitive int -/
def k26 : Class := { plain "int" none with kind := .primitive 'I', accessFlags := 0x411 }
/-- [I -/
def k27 : Class := { plain "[I" (some 0) with kind := .array 26 .int, interfaces := #[21, 2], accessFlags := 1041 }

/-- the primitive long -/
def k28 : Class := { plain "long" none with kind := .primitive 'J', accessFlags := 0x411 }
/-- [J -/
def k29 : Class := { plain "[J" (some 0) with kind := .array 28 .long, interfaces := #[21, 2], accessFlags := 1041 }

def heap : Heap := #[{ cls := 7, slots := #[.long 0, .int 1, .null, .int 0, .null, .int 0, .int 0], vm := .statics 7 },
  { cls := 15, slots := #[.int 0, .int 0, .null, .null, .ref 4, .ref 3, .int 0, .int 0, .long 0], vm := .statics 15 },
  { cls := 19, slots := #[.null, .null, .null], vm := .statics 19 },
  { cls := 23, slots := #[.int 48, .int 49, .int 50, .int 51, .int 52, .int 53, .int 54, .int 55, .int 56, .int 57, .int 48, .int 49, .int 50, .int 51, .int 52, .int 53, .int 54, .int 55, .int 56, .int 57, .int 48, .int 49, .int 50, .int 51, .int 52, .int 53, .int 54, .int 55, .int 56, .int 57, .int 48, .int 49, .int 50, .int 51, .int 52, .int 53, .int 54, .int 55, .int 56, .int 57, .int 48, .int 49, .int 50, .int 51, .int 52, .int 53, .int 54, .int 55, .int 56, .int 57, .int 48, .int 49, .int 50, .int 51, .int 52, .int 53, .int 54, .int 55, .int 56, .int 57, .int 48, .int 49, .int 50, .int 51, .int 52, .int 53, .int 54, .int 55, .int 56, .int 57, .int 48, .int 49, .int 50, .int 51, .int 52, .int 53, .int 54, .int 55, .int 56, .int 57, .int 48, .int 49, .int 50, .int 51, .int 52, .int 53, .int 54, .int 55, .int 56, .int 57, .int 48, .int 49, .int 50, .int 51, .int 52, .int 53, .int 54, .int 55, .int 56, .int 57], vm := .none },
  { cls := 23, slots := #[.int 48, .int 48, .int 48, .int 48, .int 48, .int 48, .int 48, .int 48, .int 48, .int 48, .int 49, .int 49, .int 49, .int 49, .int 49, .int 49, .int 49, .int 49, .int 49, .int 49, .int 50, .int 50, .int 50, .int 50, .int 50, .int 50, .int 50, .int 50, .int 50, .int 50, .int 51, .int 51, .int 51, .int 51, .int 51, .int 51, .int 51, .int 51, .int 51, .int 51, .int 52, .int 52, .int 52, .int 52, .int 52, .int 52, .int 52, .int 52, .int 52, .int 52, .int 53, .int 53, .int 53, .int 53, .int 53, .int 53, .int 53, .int 53, .int 53, .int 53, .int 54, .int 54, .int 54, .int 54, .int 54, .int 54, .int 54, .int 54, .int 54, .int 54, .int 55, .int 55, .int 55, .int 55, .int 55, .int 55, .int 55, .int 55, .int 55, .int 55, .int 56, .int 56, .int 56, .int 56, .int 56, .int 56, .int 56, .int 56, .int 56, .int 56, .int 57, .int 57, .int 57, .int 57, .int 57, .int 57, .int 57, .int 57, .int 57, .int 57], vm := .none }]
def classes : Array Class := #[k0, k1, k2, k3, k4, k5, k6, k7, k8, k9, k10, k11, k12, k13, k14, k15, k16, k17, k18, k19, k20, k21, k22, k23, k24, k25, k26, k27, k28, k29]
def interned : List (Array UInt16 × Addr) := []
def slotsUsed : Nat := 219
def theMethod : MethodId := ⟨1, 1⟩
def args0 : Array Value := #[.int 7, .int (-12), .int 66, .int 2]
def aboutOver (below : List Frame) : State where
  vm := { classes := classes, interned := interned.toArray }
  heap := heap
  slotsUsed := slotsUsed
  threads := #[{ frames := .invoking theMethod args0 :: below }]
def below0 : List Frame := [.native { method := ⟨0, 0⟩, args := #[] }]
def about1 : State := aboutOver below0
def p0 : Program := .bare "" "" ""
def e0 : Env := launch0.env 0 0 0
theorem w_frames : about1.frames = Frame.invoking theMethod args0 :: below0 := rfl
set_option maxRecDepth 65536 in
theorem w_args : argsFit about1.vm theMethod args0 = true := by decide +kernel
set_option maxRecDepth 65536 in
theorem w_heap : heapFits about1 = true := by decide +kernel
set_option maxRecDepth 65536 in
theorem w_runnable : about1.curStatus? = some .runnable := by decide +kernel
set_option maxRecDepth 65536 in
theorem w_alone : about1.alone = true := by decide +kernel
set_option maxRecDepth 65536 in
theorem w_named : about1.methodNamed? x = some theMethod := by decide +kernel
set_option maxRecDepth 65536 in
theorem w_hears : about1.hears theMethod below0 = true := by decide +kernel
set_option maxRecDepth 65536 in
theorem w_ripe : about1.ripe theMethod args0 below0 = true := by decide +kernel
theorem w_running : about1.status = .running := rfl
set_option maxRecDepth 65536 in
theorem w_room : about1.hasRoom e0.platform room_1 = true :=
  launch0.hasRoom_least _ room_1 (by decide +kernel) (by decide +kernel) (by decide +kernel) (by decide +kernel) (by decide +kernel) (by decide +kernel)
theorem allAtoms_all (ts : List Jvm.Cond) (a : Array Jvm.Value) (st : Jvm.State) : (allAtoms ts).before a st = ts.all (fun c => c.before a st) := by
  induction ts with
  | nil => rfl
  | cons c t ih =>
    show (Jvm.Cond.and c (allAtoms t)).before a st = _
    rw [Jvm.Cond.before_and, ih, List.all_cons]
def words1 : List Jvm.Cond := Jvm.Cond.code x code maxLocals ret :: tables_1
/-- a 'code' word, met by the world's own term for the bytes: nothing is compared byte by byte -/
theorem code_word {y : MethodName} {bytes : ByteArray} {mx : Nat} {rt : Option FieldType} {a : Array Value} {s : State} {m : MethodId} {meth : Method} {c : Code} (h1 : s.methodNamed? y = some m) (h2 : s.vm.method? m = some meth) (h3 : meth.code = some c) (h4 : c.code = bytes)
    (h5 : (c.maxLocals == mx && c.exceptionTable.isEmpty && decide (c.maxStack ≤ mostOperands) && decide (meth.sig.returnType = rt) && !meth.locks && decide (parseMethodDescriptor y.desc = some meth.sig)) = true) : (Jvm.Cond.code y bytes mx rt).before a s = true := by
  simp only [Bool.and_eq_true, beq_iff_eq, Bool.not_eq_true', decide_eq_true_eq] at h5
  obtain ⟨⟨⟨⟨⟨g1, g2⟩, g3⟩, g4⟩, g5⟩, g6⟩ := h5
  simp [Cond.before, Cond.holds, Cond.value, h1, h2, h3, h4, g1, g2, g3, g4, g5, g6]
def isCode : Jvm.Cond → Bool
  | .code _ _ _ _ => true
  | _ => false
theorem all_split {L : List Jvm.Cond} {P : Jvm.Cond → Bool} (h1 : L.all (fun c => isCode c || P c) = true) (h2 : ∀ c ∈ L.filter isCode, P c = true) : L.all P = true := by
  refine List.all_eq_true.mpr fun c hc => ?_
  have h := List.all_eq_true.mp h1 c hc
  rcases Bool.eq_false_or_eq_true (isCode c) with hi | hi
  · exact h2 c (List.mem_filter.mpr ⟨hc, hi⟩)
  · simpa [hi] using h
set_option maxRecDepth 65536 in
theorem w_c0 : (Jvm.Cond.code x code maxLocals ret).before args0 about1 = true := code_word (m := ⟨1, 1⟩) (meth := k1m1) (c := k1c1) (by decide +kernel) rfl rfl rfl (by decide +kernel)
set_option maxRecDepth 65536 in
theorem w_c1 : (Jvm.Cond.code ({ cls := "java/lang/String", name := "valueOf", desc := "(C)Ljava/lang/String;" } : Jvm.MethodName) jdk_42_method_139_code (1 : Nat) (Option.some (Jvm.ClassFile.FieldType.object "java/lang/String"))).before args0 about1 = true := code_word (m := ⟨7, 6⟩) (meth := k7m6) (c := k7c6) (by decide +kernel) rfl rfl rfl (by decide +kernel)
set_option maxRecDepth 65536 in
theorem w_c2 : (Jvm.Cond.code ({ cls := "java/lang/StringLatin1", name := "canEncode", desc := "(C)Z" } : Jvm.MethodName) jdk_43_method_3_code (1 : Nat) (Option.some Jvm.ClassFile.FieldType.boolean)).before args0 about1 = true := code_word (m := ⟨8, 2⟩) (meth := k8m2) (c := k8c2) (by decide +kernel) rfl rfl rfl (by decide +kernel)
set_option maxRecDepth 65536 in
theorem w_c3 : (Jvm.Cond.code ({ cls := "java/lang/StringLatin1", name := "toBytes", desc := "(C)[B" } : Jvm.MethodName) jdk_43_method_46_code (1 : Nat) (Option.some (Jvm.ClassFile.FieldType.array Jvm.ClassFile.FieldType.byte))).before args0 about1 = true := code_word (m := ⟨8, 3⟩) (meth := k8m3) (c := k8c3) (by decide +kernel) rfl rfl rfl (by decide +kernel)
set_option maxRecDepth 65536 in
theorem w_c4 : (Jvm.Cond.code ({ cls := "java/lang/String", name := "<init>", desc := "([BB)V" } : Jvm.MethodName) jdk_42_method_151_code (3 : Nat) (Option.none : Option Jvm.ClassFile.FieldType)).before args0 about1 = true := code_word (m := ⟨7, 10⟩) (meth := k7m10) (c := k7c10) (by decide +kernel) rfl rfl rfl (by decide +kernel)
set_option maxRecDepth 65536 in
theorem w_c5 : (Jvm.Cond.code ({ cls := "java/lang/Object", name := "<init>", desc := "()V" } : Jvm.MethodName) object_method_1_code (1 : Nat) (Option.none : Option Jvm.ClassFile.FieldType)).before args0 about1 = true := code_word (m := ⟨0, 0⟩) (meth := k0m0) (c := k0c0) (by decide +kernel) rfl rfl rfl (by decide +kernel)
set_option maxRecDepth 65536 in
theorem w_c6 : (Jvm.Cond.code ({ cls := "com/example/firer/firer/formats/ParserMessages", name := "at", desc := "(IILjava/lang/String;)Ljava/lang/String;" } : Jvm.MethodName) prog_33_method_2_code (4 : Nat) (Option.some (Jvm.ClassFile.FieldType.object "java/lang/String"))).before args0 about1 = true := code_word (m := ⟨9, 1⟩) (meth := k9m1) (c := k9c1) (by decide +kernel) rfl rfl rfl (by decide +kernel)
set_option maxRecDepth 65536 in
theorem w_c7 : (Jvm.Cond.code ({ cls := "java/lang/String", name := "equals", desc := "(Ljava/lang/Object;)Z" } : Jvm.MethodName) jdk_42_method_66_code (3 : Nat) (Option.some Jvm.ClassFile.FieldType.boolean)).before args0 about1 = true := code_word (m := ⟨7, 5⟩) (meth := k7m5) (c := k7c5) (by decide +kernel) rfl rfl rfl (by decide +kernel)
set_option maxRecDepth 65536 in
theorem w_c8 : (Jvm.Cond.code ({ cls := "java/lang/StringBuilder", name := "<init>", desc := "()V" } : Jvm.MethodName) jdk_67_method_1_code (1 : Nat) (Option.none : Option Jvm.ClassFile.FieldType)).before args0 about1 = true := code_word (m := ⟨12, 0⟩) (meth := k12m0) (c := k12c0) (by decide +kernel) rfl rfl rfl (by decide +kernel)
set_option maxRecDepth 65536 in
theorem w_c9 : (Jvm.Cond.code ({ cls := "java/lang/AbstractStringBuilder", name := "<init>", desc := "(I)V" } : Jvm.MethodName) jdk_68_method_2_code (2 : Nat) (Option.none : Option Jvm.ClassFile.FieldType)).before args0 about1 = true := code_word (m := ⟨11, 1⟩) (meth := k11m1) (c := k11c1) (by decide +kernel) rfl rfl rfl (by decide +kernel)
set_option maxRecDepth 65536 in
theorem w_c10 : (Jvm.Cond.code ({ cls := "java/lang/StringBuilder", name := "append", desc := "(Ljava/lang/String;)Ljava/lang/StringBuilder;" } : Jvm.MethodName) jdk_67_method_7_code (2 : Nat) (Option.some (Jvm.ClassFile.FieldType.object "java/lang/StringBuilder"))).before args0 about1 = true := code_word (m := ⟨12, 1⟩) (meth := k12m1) (c := k12c1) (by decide +kernel) rfl rfl rfl (by decide +kernel)
set_option maxRecDepth 65536 in
theorem w_c11 : (Jvm.Cond.code ({ cls := "java/lang/AbstractStringBuilder", name := "append", desc := "(Ljava/lang/String;)Ljava/lang/AbstractStringBuilder;" } : Jvm.MethodName) jdk_68_method_22_code (3 : Nat) (Option.some (Jvm.ClassFile.FieldType.object "java/lang/AbstractStringBuilder"))).before args0 about1 = true := code_word (m := ⟨11, 5⟩) (meth := k11m5) (c := k11c5) (by decide +kernel) rfl rfl rfl (by decide +kernel)
set_option maxRecDepth 65536 in
theorem w_c12 : (Jvm.Cond.code ({ cls := "java/lang/String", name := "length", desc := "()I" } : Jvm.MethodName) jdk_42_method_54_code (1 : Nat) (Option.some Jvm.ClassFile.FieldType.int)).before args0 about1 = true := code_word (m := ⟨7, 3⟩) (meth := k7m3) (c := k7c3) (by decide +kernel) rfl rfl rfl (by decide +kernel)
set_option maxRecDepth 65536 in
theorem w_c13 : (Jvm.Cond.code ({ cls := "java/lang/String", name := "coder", desc := "()B" } : Jvm.MethodName) jdk_42_method_152_code (1 : Nat) (Option.some Jvm.ClassFile.FieldType.byte)).before args0 about1 = true := code_word (m := ⟨7, 11⟩) (meth := k7m11) (c := k7c11) (by decide +kernel) rfl rfl rfl (by decide +kernel)
set_option maxRecDepth 65536 in
theorem w_c14 : (Jvm.Cond.code ({ cls := "java/lang/AbstractStringBuilder", name := "ensureCapacityInternal", desc := "(I)V" } : Jvm.MethodName) jdk_68_method_9_code (3 : Nat) (Option.none : Option Jvm.ClassFile.FieldType)).before args0 about1 = true := code_word (m := ⟨11, 3⟩) (meth := k11m3) (c := k11c3) (by decide +kernel) rfl rfl rfl (by decide +kernel)
set_option maxRecDepth 65536 in
theorem w_c15 : (Jvm.Cond.code ({ cls := "java/lang/AbstractStringBuilder", name := "putStringAt", desc := "(ILjava/lang/String;)V" } : Jvm.MethodName) jdk_68_method_73_code (3 : Nat) (Option.none : Option Jvm.ClassFile.FieldType)).before args0 about1 = true := code_word (m := ⟨11, 10⟩) (meth := k11m10) (c := k11c10) (by decide +kernel) rfl rfl rfl (by decide +kernel)
set_option maxRecDepth 65536 in
theorem w_c16 : (Jvm.Cond.code ({ cls := "java/lang/AbstractStringBuilder", name := "inflateIfNeededFor", desc := "(Ljava/lang/String;)V" } : Jvm.MethodName) jdk_68_method_71_code (2 : Nat) (Option.none : Option Jvm.ClassFile.FieldType)).before args0 about1 = true := code_word (m := ⟨11, 9⟩) (meth := k11m9) (c := k11c9) (by decide +kernel) rfl rfl rfl (by decide +kernel)
set_option maxRecDepth 65536 in
theorem w_c17 : (Jvm.Cond.code ({ cls := "java/lang/String", name := "getBytes", desc := "([BIB)V" } : Jvm.MethodName) jdk_42_method_147_code (4 : Nat) (Option.none : Option Jvm.ClassFile.FieldType)).before args0 about1 = true := code_word (m := ⟨7, 7⟩) (meth := k7m7) (c := k7c7) (by decide +kernel) rfl rfl rfl (by decide +kernel)
set_option maxRecDepth 65536 in
theorem w_c18 : (Jvm.Cond.code ({ cls := "java/lang/StringBuilder", name := "append", desc := "(I)Ljava/lang/StringBuilder;" } : Jvm.MethodName) jdk_67_method_15_code (2 : Nat) (Option.some (Jvm.ClassFile.FieldType.object "java/lang/StringBuilder"))).before args0 about1 = true := code_word (m := ⟨12, 2⟩) (meth := k12m2) (c := k12c2) (by decide +kernel) rfl rfl rfl (by decide +kernel)
set_option maxRecDepth 65536 in
theorem w_c19 : (Jvm.Cond.code ({ cls := "java/lang/AbstractStringBuilder", name := "append", desc := "(I)Ljava/lang/AbstractStringBuilder;" } : Jvm.MethodName) jdk_68_method_32_code (4 : Nat) (Option.some (Jvm.ClassFile.FieldType.object "java/lang/AbstractStringBuilder"))).before args0 about1 = true := code_word (m := ⟨11, 6⟩) (meth := k11m6) (c := k11c6) (by decide +kernel) rfl rfl rfl (by decide +kernel)
set_option maxRecDepth 65536 in
theorem w_c20 : (Jvm.Cond.code ({ cls := "java/lang/Integer", name := "stringSize", desc := "(I)I" } : Jvm.MethodName) jdk_33_method_13_code (4 : Nat) (Option.some Jvm.ClassFile.FieldType.int)).before args0 about1 = true := code_word (m := ⟨15, 1⟩) (meth := k15m1) (c := k15c1) (by decide +kernel) rfl rfl rfl (by decide +kernel)
set_option maxRecDepth 65536 in
theorem w_c21 : (Jvm.Cond.code ({ cls := "java/lang/AbstractStringBuilder", name := "isLatin1", desc := "()Z" } : Jvm.MethodName) jdk_68_method_68_code (1 : Nat) (Option.some Jvm.ClassFile.FieldType.boolean)).before args0 about1 = true := code_word (m := ⟨11, 8⟩) (meth := k11m8) (c := k11c8) (by decide +kernel) rfl rfl rfl (by decide +kernel)
set_option maxRecDepth 65536 in
theorem w_c22 : (Jvm.Cond.code ({ cls := "java/lang/Integer", name := "getChars", desc := "(II[B)I" } : Jvm.MethodName) jdk_33_method_12_code (7 : Nat) (Option.some Jvm.ClassFile.FieldType.int)).before args0 about1 = true := code_word (m := ⟨15, 0⟩) (meth := k15m0) (c := k15c0) (by decide +kernel) rfl rfl rfl (by decide +kernel)
set_option maxRecDepth 65536 in
theorem w_c23 : (Jvm.Cond.code ({ cls := "java/lang/AbstractStringBuilder", name := "newCapacity", desc := "(I)I" } : Jvm.MethodName) jdk_68_method_10_code (6 : Nat) (Option.some Jvm.ClassFile.FieldType.int)).before args0 about1 = true := code_word (m := ⟨11, 4⟩) (meth := k11m4) (c := k11c4) (by decide +kernel) rfl rfl rfl (by decide +kernel)
set_option maxRecDepth 65536 in
theorem w_c24 : (Jvm.Cond.code ({ cls := "jdk/internal/util/ArraysSupport", name := "newLength", desc := "(III)I" } : Jvm.MethodName) jdk_48_method_27_code (4 : Nat) (Option.some Jvm.ClassFile.FieldType.int)).before args0 about1 = true := code_word (m := ⟨16, 1⟩) (meth := k16m1) (c := k16c1) (by decide +kernel) rfl rfl rfl (by decide +kernel)
set_option maxRecDepth 65536 in
theorem w_c25 : (Jvm.Cond.code ({ cls := "java/lang/Math", name := "max", desc := "(II)I" } : Jvm.MethodName) jdk_29_method_65_code (2 : Nat) (Option.some Jvm.ClassFile.FieldType.int)).before args0 about1 = true := code_word (m := ⟨17, 1⟩) (meth := k17m1) (c := k17c1) (by decide +kernel) rfl rfl rfl (by decide +kernel)
set_option maxRecDepth 65536 in
theorem w_c26 : (Jvm.Cond.code ({ cls := "java/util/Arrays", name := "copyOf", desc := "([BI)[B" } : Jvm.MethodName) jdk_65_method_121_code (3 : Nat) (Option.some (Jvm.ClassFile.FieldType.array Jvm.ClassFile.FieldType.byte))).before args0 about1 = true := code_word (m := ⟨18, 1⟩) (meth := k18m1) (c := k18c1) (by decide +kernel) rfl rfl rfl (by decide +kernel)
set_option maxRecDepth 65536 in
theorem w_c27 : (Jvm.Cond.code ({ cls := "java/lang/Math", name := "min", desc := "(II)I" } : Jvm.MethodName) jdk_29_method_69_code (2 : Nat) (Option.some Jvm.ClassFile.FieldType.int)).before args0 about1 = true := code_word (m := ⟨17, 2⟩) (meth := k17m2) (c := k17c2) (by decide +kernel) rfl rfl rfl (by decide +kernel)
set_option maxRecDepth 65536 in
theorem w_c28 : (Jvm.Cond.code ({ cls := "java/lang/StringBuilder", name := "toString", desc := "()Ljava/lang/String;" } : Jvm.MethodName) jdk_67_method_42_code (1 : Nat) (Option.some (Jvm.ClassFile.FieldType.object "java/lang/String"))).before args0 about1 = true := code_word (m := ⟨12, 3⟩) (meth := k12m3) (c := k12c3) (by decide +kernel) rfl rfl rfl (by decide +kernel)
set_option maxRecDepth 65536 in
theorem w_c29 : (Jvm.Cond.code ({ cls := "java/lang/String", name := "<init>", desc := "(Ljava/lang/StringBuilder;)V" } : Jvm.MethodName) jdk_42_method_53_code (2 : Nat) (Option.none : Option Jvm.ClassFile.FieldType)).before args0 about1 = true := code_word (m := ⟨7, 2⟩) (meth := k7m2) (c := k7c2) (by decide +kernel) rfl rfl rfl (by decide +kernel)
set_option maxRecDepth 65536 in
theorem w_c30 : (Jvm.Cond.code ({ cls := "java/lang/String", name := "<init>", desc := "(Ljava/lang/AbstractStringBuilder;Ljava/lang/Void;)V" } : Jvm.MethodName) jdk_42_method_150_code (5 : Nat) (Option.none : Option Jvm.ClassFile.FieldType)).before args0 about1 = true := code_word (m := ⟨7, 9⟩) (meth := k7m9) (c := k7c9) (by decide +kernel) rfl rfl rfl (by decide +kernel)
set_option maxRecDepth 65536 in
theorem w_c31 : (Jvm.Cond.code ({ cls := "java/lang/AbstractStringBuilder", name := "getValue", desc := "()[B" } : Jvm.MethodName) jdk_68_method_64_code (1 : Nat) (Option.some (Jvm.ClassFile.FieldType.array Jvm.ClassFile.FieldType.byte))).before args0 about1 = true := code_word (m := ⟨11, 7⟩) (meth := k11m7) (c := k11c7) (by decide +kernel) rfl rfl rfl (by decide +kernel)
set_option maxRecDepth 65536 in
theorem w_c32 : (Jvm.Cond.code ({ cls := "java/lang/StringBuilder", name := "length", desc := "()I" } : Jvm.MethodName) jdk_67_method_93_code (1 : Nat) (Option.some Jvm.ClassFile.FieldType.int)).before args0 about1 = true := code_word (m := ⟨12, 4⟩) (meth := k12m4) (c := k12c4) (by decide +kernel) rfl rfl rfl (by decide +kernel)
set_option maxRecDepth 65536 in
theorem w_c33 : (Jvm.Cond.code ({ cls := "java/lang/AbstractStringBuilder", name := "length", desc := "()I" } : Jvm.MethodName) jdk_68_method_6_code (1 : Nat) (Option.some Jvm.ClassFile.FieldType.int)).before args0 about1 = true := code_word (m := ⟨11, 2⟩) (meth := k11m2) (c := k11c2) (by decide +kernel) rfl rfl rfl (by decide +kernel)
set_option maxRecDepth 65536 in
theorem w_c34 : (Jvm.Cond.code ({ cls := "java/util/Arrays", name := "copyOfRange", desc := "([BII)[B" } : Jvm.MethodName) jdk_65_method_132_code (3 : Nat) (Option.some (Jvm.ClassFile.FieldType.array Jvm.ClassFile.FieldType.byte))).before args0 about1 = true := code_word (m := ⟨18, 3⟩) (meth := k18m3) (c := k18c3) (by decide +kernel) rfl rfl rfl (by decide +kernel)
set_option maxRecDepth 65536 in
theorem w_c35 : (Jvm.Cond.code ({ cls := "java/util/Arrays", name := "copyOfRangeByte", desc := "([BII)[B" } : Jvm.MethodName) jdk_65_method_133_code (5 : Nat) (Option.some (Jvm.ClassFile.FieldType.array Jvm.ClassFile.FieldType.byte))).before args0 about1 = true := code_word (m := ⟨18, 4⟩) (meth := k18m4) (c := k18c4) (by decide +kernel) rfl rfl rfl (by decide +kernel)
set_option maxRecDepth 65536 in
theorem w_c36 : (Jvm.Cond.code ({ cls := "java/util/Arrays", name := "checkLength", desc := "(II)V" } : Jvm.MethodName) jdk_65_method_131_code (2 : Nat) (Option.none : Option Jvm.ClassFile.FieldType)).before args0 about1 = true := code_word (m := ⟨18, 2⟩) (meth := k18m2) (c := k18c2) (by decide +kernel) rfl rfl rfl (by decide +kernel)
set_option maxRecDepth 65536 in
theorem w_c37 : (Jvm.Cond.code ({ cls := "com/example/firer/firer/formats/ParserMessagesAtPinLaw", name := "numLen", desc := "(J)I" } : Jvm.MethodName) method_3_code (2 : Nat) (Option.some Jvm.ClassFile.FieldType.int)).before args0 about1 = true := code_word (m := ⟨1, 2⟩) (meth := k1m2) (c := k1c2) (by decide +kernel) rfl rfl rfl (by decide +kernel)
set_option maxRecDepth 65536 in
theorem w_c38 : (Jvm.Cond.code ({ cls := "com/example/firer/firer/formats/ParserMessagesAtPinLaw", name := "sameAt", desc := "(Ljava/lang/String;ILjava/lang/String;)Z" } : Jvm.MethodName) method_8_code (3 : Nat) (Option.some Jvm.ClassFile.FieldType.boolean)).before args0 about1 = true := code_word (m := ⟨1, 7⟩) (meth := k1m7) (c := k1c7) (by decide +kernel) rfl rfl rfl (by decide +kernel)
set_option maxRecDepth 65536 in
theorem w_c39 : (Jvm.Cond.code ({ cls := "com/example/firer/firer/formats/ParserMessagesAtPinLaw", name := "step", desc := "(Ljava/lang/String;ILjava/lang/String;I)Z" } : Jvm.MethodName) method_7_code (4 : Nat) (Option.some Jvm.ClassFile.FieldType.boolean)).before args0 about1 = true := code_word (m := ⟨1, 6⟩) (meth := k1m6) (c := k1c6) (by decide +kernel) rfl rfl rfl (by decide +kernel)
set_option maxRecDepth 65536 in
theorem w_c40 : (Jvm.Cond.code ({ cls := "java/lang/String", name := "charAt", desc := "(I)C" } : Jvm.MethodName) jdk_42_method_56_code (2 : Nat) (Option.some Jvm.ClassFile.FieldType.char)).before args0 about1 = true := code_word (m := ⟨7, 4⟩) (meth := k7m4) (c := k7c4) (by decide +kernel) rfl rfl rfl (by decide +kernel)
set_option maxRecDepth 65536 in
theorem w_c41 : (Jvm.Cond.code ({ cls := "java/lang/String", name := "isLatin1", desc := "()Z" } : Jvm.MethodName) jdk_42_method_154_code (1 : Nat) (Option.some Jvm.ClassFile.FieldType.boolean)).before args0 about1 = true := code_word (m := ⟨7, 12⟩) (meth := k7m12) (c := k7c12) (by decide +kernel) rfl rfl rfl (by decide +kernel)
set_option maxRecDepth 65536 in
theorem w_c42 : (Jvm.Cond.code ({ cls := "java/lang/StringLatin1", name := "charAt", desc := "([BI)C" } : Jvm.MethodName) jdk_43_method_2_code (2 : Nat) (Option.some Jvm.ClassFile.FieldType.char)).before args0 about1 = true := code_word (m := ⟨8, 1⟩) (meth := k8m1) (c := k8c1) (by decide +kernel) rfl rfl rfl (by decide +kernel)
set_option maxRecDepth 65536 in
theorem w_c43 : (Jvm.Cond.code ({ cls := "java/lang/String", name := "checkIndex", desc := "(II)V" } : Jvm.MethodName) jdk_42_method_155_code (2 : Nat) (Option.none : Option Jvm.ClassFile.FieldType)).before args0 about1 = true := code_word (m := ⟨7, 13⟩) (meth := k7m13) (c := k7c13) (by decide +kernel) rfl rfl rfl (by decide +kernel)
set_option maxRecDepth 65536 in
theorem w_c44 : (Jvm.Cond.code ({ cls := "jdk/internal/util/Preconditions", name := "checkIndex", desc := "(IILjava/util/function/BiFunction;)I" } : Jvm.MethodName) jdk_41_method_11_code (3 : Nat) (Option.some Jvm.ClassFile.FieldType.int)).before args0 about1 = true := code_word (m := ⟨19, 1⟩) (meth := k19m1) (c := k19c1) (by decide +kernel) rfl rfl rfl (by decide +kernel)
set_option maxRecDepth 65536 in
theorem w_c45 : (Jvm.Cond.code ({ cls := "com/example/firer/firer/formats/ParserMessagesAtPinLaw", name := "digitsAt", desc := "(Ljava/lang/String;IJI)Z" } : Jvm.MethodName) method_6_code (5 : Nat) (Option.some Jvm.ClassFile.FieldType.boolean)).before args0 about1 = true := code_word (m := ⟨1, 5⟩) (meth := k1m5) (c := k1c5) (by decide +kernel) rfl rfl rfl (by decide +kernel)
set_option maxRecDepth 65536 in
theorem w_c46 : (Jvm.Cond.code ({ cls := "com/example/firer/firer/formats/ParserMessagesAtPinLaw", name := "dig", desc := "(Ljava/lang/String;IJII)Z" } : Jvm.MethodName) method_5_code (7 : Nat) (Option.some Jvm.ClassFile.FieldType.boolean)).before args0 about1 = true := code_word (m := ⟨1, 4⟩) (meth := k1m4) (c := k1c4) (by decide +kernel) rfl rfl rfl (by decide +kernel)
set_option maxRecDepth 65536 in
theorem w_c47 : (Jvm.Cond.code ({ cls := "com/example/firer/firer/formats/ParserMessagesAtPinLaw", name := "pow10", desc := "(I)J" } : Jvm.MethodName) method_4_code (2 : Nat) (Option.some Jvm.ClassFile.FieldType.long)).before args0 about1 = true := code_word (m := ⟨1, 3⟩) (meth := k1m3) (c := k1c3) (by decide +kernel) rfl rfl rfl (by decide +kernel)
set_option maxRecDepth 65536 in
theorem w_c48 : (Jvm.Cond.code ({ cls := "java/lang/String", name := "<init>", desc := "([C)V" } : Jvm.MethodName) jdk_42_method_3_code (2 : Nat) (Option.none : Option Jvm.ClassFile.FieldType)).before args0 about1 = true := code_word (m := ⟨7, 1⟩) (meth := k7m1) (c := k7c1) (by decide +kernel) rfl rfl rfl (by decide +kernel)
set_option maxRecDepth 65536 in
theorem w_c49 : (Jvm.Cond.code ({ cls := "java/lang/String", name := "<init>", desc := "([CIILjava/lang/Void;)V" } : Jvm.MethodName) jdk_42_method_149_code (6 : Nat) (Option.none : Option Jvm.ClassFile.FieldType)).before args0 about1 = true := code_word (m := ⟨7, 8⟩) (meth := k7m8) (c := k7c8) (by decide +kernel) rfl rfl rfl (by decide +kernel)
set_option maxRecDepth 65536 in
theorem w_c50 : (Jvm.Cond.code ({ cls := "java/lang/StringUTF16", name := "compress", desc := "([CII)[B" } : Jvm.MethodName) jdk_52_method_16_code (6 : Nat) (Option.some (Jvm.ClassFile.FieldType.array Jvm.ClassFile.FieldType.byte))).before args0 about1 = true := code_word (m := ⟨20, 2⟩) (meth := k20m2) (c := k20c2) (by decide +kernel) rfl rfl rfl (by decide +kernel)
set_option maxRecDepth 65536 in
theorem w_c51 : (Jvm.Cond.code ({ cls := "java/lang/StringUTF16", name := "compress", desc := "([CI[BII)I" } : Jvm.MethodName) jdk_52_method_21_code (7 : Nat) (Option.some Jvm.ClassFile.FieldType.int)).before args0 about1 = true := code_word (m := ⟨20, 3⟩) (meth := k20m3) (c := k20c3) (by decide +kernel) rfl rfl rfl (by decide +kernel)
set_option maxRecDepth 65536 in
theorem w_c52 : (Jvm.Cond.code ({ cls := "java/lang/StringUTF16", name := "coderFromArrayLen", desc := "([BI)B" } : Jvm.MethodName) jdk_52_method_15_code (2 : Nat) (Option.some Jvm.ClassFile.FieldType.byte)).before args0 about1 = true := code_word (m := ⟨20, 1⟩) (meth := k20m1) (c := k20c1) (by decide +kernel) rfl rfl rfl (by decide +kernel)
def codes1 : List Jvm.Cond := [Jvm.Cond.code x code maxLocals ret, Jvm.Cond.code ({ cls := "java/lang/String", name := "valueOf", desc := "(C)Ljava/lang/String;" } : Jvm.MethodName) jdk_42_method_139_code (1 : Nat) (Option.some (Jvm.ClassFile.FieldType.object "java/lang/String")), Jvm.Cond.code ({ cls := "java/lang/StringLatin1", name := "canEncode", desc := "(C)Z" } : Jvm.MethodName) jdk_43_method_3_code (1 : Nat) (Option.some Jvm.ClassFile.FieldType.boolean), Jvm.Cond.code ({ cls := "java/lang/StringLatin1", name := "toBytes", desc := "(C)[B" } : Jvm.MethodName) jdk_43_method_46_code (1 : Nat) (Option.some (Jvm.ClassFile.FieldType.array Jvm.ClassFile.FieldType.byte)), Jvm.Cond.code ({ cls := "java/lang/String", name := "<init>", desc := "([BB)V" } : Jvm.MethodName) jdk_42_method_151_code (3 : Nat) (Option.none : Option Jvm.ClassFile.FieldType), Jvm.Cond.code ({ cls := "java/lang/Object", name := "<init>", desc := "()V" } : Jvm.MethodName) object_method_1_code (1 : Nat) (Option.none : Option Jvm.ClassFile.FieldType), Jvm.Cond.code ({ cls := "com/example/firer/firer/formats/ParserMessages", name := "at", desc := "(IILjava/lang/String;)Ljava/lang/String;" } : Jvm.MethodName) prog_33_method_2_code (4 : Nat) (Option.some (Jvm.ClassFile.FieldType.object "java/lang/String")), Jvm.Cond.code ({ cls := "java/lang/String", name := "equals", desc := "(Ljava/lang/Object;)Z" } : Jvm.MethodName) jdk_42_method_66_code (3 : Nat) (Option.some Jvm.ClassFile.FieldType.boolean), Jvm.Cond.code ({ cls := "java/lang/StringBuilder", name := "<init>", desc := "()V" } : Jvm.MethodName) jdk_67_method_1_code (1 : Nat) (Option.none : Option Jvm.ClassFile.FieldType), Jvm.Cond.code ({ cls := "java/lang/AbstractStringBuilder", name := "<init>", desc := "(I)V" } : Jvm.MethodName) jdk_68_method_2_code (2 : Nat) (Option.none : Option Jvm.ClassFile.FieldType), Jvm.Cond.code ({ cls := "java/lang/StringBuilder", name := "append", desc := "(Ljava/lang/String;)Ljava/lang/StringBuilder;" } : Jvm.MethodName) jdk_67_method_7_code (2 : Nat) (Option.some (Jvm.ClassFile.FieldType.object "java/lang/StringBuilder")), Jvm.Cond.code ({ cls := "java/lang/AbstractStringBuilder", name := "append", desc := "(Ljava/lang/String;)Ljava/lang/AbstractStringBuilder;" } : Jvm.MethodName) jdk_68_method_22_code (3 : Nat) (Option.some (Jvm.ClassFile.FieldType.object "java/lang/AbstractStringBuilder")), Jvm.Cond.code ({ cls := "java/lang/String", name := "length", desc := "()I" } : Jvm.MethodName) jdk_42_method_54_code (1 : Nat) (Option.some Jvm.ClassFile.FieldType.int), Jvm.Cond.code ({ cls := "java/lang/String", name := "coder", desc := "()B" } : Jvm.MethodName) jdk_42_method_152_code (1 : Nat) (Option.some Jvm.ClassFile.FieldType.byte), Jvm.Cond.code ({ cls := "java/lang/AbstractStringBuilder", name := "ensureCapacityInternal", desc := "(I)V" } : Jvm.MethodName) jdk_68_method_9_code (3 : Nat) (Option.none : Option Jvm.ClassFile.FieldType), Jvm.Cond.code ({ cls := "java/lang/AbstractStringBuilder", name := "putStringAt", desc := "(ILjava/lang/String;)V" } : Jvm.MethodName) jdk_68_method_73_code (3 : Nat) (Option.none : Option Jvm.ClassFile.FieldType), Jvm.Cond.code ({ cls := "java/lang/AbstractStringBuilder", name := "inflateIfNeededFor", desc := "(Ljava/lang/String;)V" } : Jvm.MethodName) jdk_68_method_71_code (2 : Nat) (Option.none : Option Jvm.ClassFile.FieldType), Jvm.Cond.code ({ cls := "java/lang/String", name := "getBytes", desc := "([BIB)V" } : Jvm.MethodName) jdk_42_method_147_code (4 : Nat) (Option.none : Option Jvm.ClassFile.FieldType), Jvm.Cond.code ({ cls := "java/lang/StringBuilder", name := "append", desc := "(I)Ljava/lang/StringBuilder;" } : Jvm.MethodName) jdk_67_method_15_code (2 : Nat) (Option.some (Jvm.ClassFile.FieldType.object "java/lang/StringBuilder")), Jvm.Cond.code ({ cls := "java/lang/AbstractStringBuilder", name := "append", desc := "(I)Ljava/lang/AbstractStringBuilder;" } : Jvm.MethodName) jdk_68_method_32_code (4 : Nat) (Option.some (Jvm.ClassFile.FieldType.object "java/lang/AbstractStringBuilder")), Jvm.Cond.code ({ cls := "java/lang/Integer", name := "stringSize", desc := "(I)I" } : Jvm.MethodName) jdk_33_method_13_code (4 : Nat) (Option.some Jvm.ClassFile.FieldType.int), Jvm.Cond.code ({ cls := "java/lang/AbstractStringBuilder", name := "isLatin1", desc := "()Z" } : Jvm.MethodName) jdk_68_method_68_code (1 : Nat) (Option.some Jvm.ClassFile.FieldType.boolean), Jvm.Cond.code ({ cls := "java/lang/Integer", name := "getChars", desc := "(II[B)I" } : Jvm.MethodName) jdk_33_method_12_code (7 : Nat) (Option.some Jvm.ClassFile.FieldType.int), Jvm.Cond.code ({ cls := "java/lang/AbstractStringBuilder", name := "newCapacity", desc := "(I)I" } : Jvm.MethodName) jdk_68_method_10_code (6 : Nat) (Option.some Jvm.ClassFile.FieldType.int), Jvm.Cond.code ({ cls := "jdk/internal/util/ArraysSupport", name := "newLength", desc := "(III)I" } : Jvm.MethodName) jdk_48_method_27_code (4 : Nat) (Option.some Jvm.ClassFile.FieldType.int), Jvm.Cond.code ({ cls := "java/lang/Math", name := "max", desc := "(II)I" } : Jvm.MethodName) jdk_29_method_65_code (2 : Nat) (Option.some Jvm.ClassFile.FieldType.int), Jvm.Cond.code ({ cls := "java/util/Arrays", name := "copyOf", desc := "([BI)[B" } : Jvm.MethodName) jdk_65_method_121_code (3 : Nat) (Option.some (Jvm.ClassFile.FieldType.array Jvm.ClassFile.FieldType.byte)), Jvm.Cond.code ({ cls := "java/lang/Math", name := "min", desc := "(II)I" } : Jvm.MethodName) jdk_29_method_69_code (2 : Nat) (Option.some Jvm.ClassFile.FieldType.int), Jvm.Cond.code ({ cls := "java/lang/StringBuilder", name := "toString", desc := "()Ljava/lang/String;" } : Jvm.MethodName) jdk_67_method_42_code (1 : Nat) (Option.some (Jvm.ClassFile.FieldType.object "java/lang/String")), Jvm.Cond.code ({ cls := "java/lang/String", name := "<init>", desc := "(Ljava/lang/StringBuilder;)V" } : Jvm.MethodName) jdk_42_method_53_code (2 : Nat) (Option.none : Option Jvm.ClassFile.FieldType), Jvm.Cond.code ({ cls := "java/lang/String", name := "<init>", desc := "(Ljava/lang/AbstractStringBuilder;Ljava/lang/Void;)V" } : Jvm.MethodName) jdk_42_method_150_code (5 : Nat) (Option.none : Option Jvm.ClassFile.FieldType), Jvm.Cond.code ({ cls := "java/lang/AbstractStringBuilder", name := "getValue", desc := "()[B" } : Jvm.MethodName) jdk_68_method_64_code (1 : Nat) (Option.some (Jvm.ClassFile.FieldType.array Jvm.ClassFile.FieldType.byte)), Jvm.Cond.code ({ cls := "java/lang/StringBuilder", name := "length", desc := "()I" } : Jvm.MethodName) jdk_67_method_93_code (1 : Nat) (Option.some Jvm.ClassFile.FieldType.int), Jvm.Cond.code ({ cls := "java/lang/AbstractStringBuilder", name := "length", desc := "()I" } : Jvm.MethodName) jdk_68_method_6_code (1 : Nat) (Option.some Jvm.ClassFile.FieldType.int), Jvm.Cond.code ({ cls := "java/util/Arrays", name := "copyOfRange", desc := "([BII)[B" } : Jvm.MethodName) jdk_65_method_132_code (3 : Nat) (Option.some (Jvm.ClassFile.FieldType.array Jvm.ClassFile.FieldType.byte)), Jvm.Cond.code ({ cls := "java/util/Arrays", name := "copyOfRangeByte", desc := "([BII)[B" } : Jvm.MethodName) jdk_65_method_133_code (5 : Nat) (Option.some (Jvm.ClassFile.FieldType.array Jvm.ClassFile.FieldType.byte)), Jvm.Cond.code ({ cls := "java/util/Arrays", name := "checkLength", desc := "(II)V" } : Jvm.MethodName) jdk_65_method_131_code (2 : Nat) (Option.none : Option Jvm.ClassFile.FieldType), Jvm.Cond.code ({ cls := "com/example/firer/firer/formats/ParserMessagesAtPinLaw", name := "numLen", desc := "(J)I" } : Jvm.MethodName) method_3_code (2 : Nat) (Option.some Jvm.ClassFile.FieldType.int), Jvm.Cond.code ({ cls := "com/example/firer/firer/formats/ParserMessagesAtPinLaw", name := "sameAt", desc := "(Ljava/lang/String;ILjava/lang/String;)Z" } : Jvm.MethodName) method_8_code (3 : Nat) (Option.some Jvm.ClassFile.FieldType.boolean), Jvm.Cond.code ({ cls := "com/example/firer/firer/formats/ParserMessagesAtPinLaw", name := "step", desc := "(Ljava/lang/String;ILjava/lang/String;I)Z" } : Jvm.MethodName) method_7_code (4 : Nat) (Option.some Jvm.ClassFile.FieldType.boolean), Jvm.Cond.code ({ cls := "java/lang/String", name := "charAt", desc := "(I)C" } : Jvm.MethodName) jdk_42_method_56_code (2 : Nat) (Option.some Jvm.ClassFile.FieldType.char), Jvm.Cond.code ({ cls := "java/lang/String", name := "isLatin1", desc := "()Z" } : Jvm.MethodName) jdk_42_method_154_code (1 : Nat) (Option.some Jvm.ClassFile.FieldType.boolean), Jvm.Cond.code ({ cls := "java/lang/StringLatin1", name := "charAt", desc := "([BI)C" } : Jvm.MethodName) jdk_43_method_2_code (2 : Nat) (Option.some Jvm.ClassFile.FieldType.char), Jvm.Cond.code ({ cls := "java/lang/String", name := "checkIndex", desc := "(II)V" } : Jvm.MethodName) jdk_42_method_155_code (2 : Nat) (Option.none : Option Jvm.ClassFile.FieldType), Jvm.Cond.code ({ cls := "jdk/internal/util/Preconditions", name := "checkIndex", desc := "(IILjava/util/function/BiFunction;)I" } : Jvm.MethodName) jdk_41_method_11_code (3 : Nat) (Option.some Jvm.ClassFile.FieldType.int), Jvm.Cond.code ({ cls := "com/example/firer/firer/formats/ParserMessagesAtPinLaw", name := "digitsAt", desc := "(Ljava/lang/String;IJI)Z" } : Jvm.MethodName) method_6_code (5 : Nat) (Option.some Jvm.ClassFile.FieldType.boolean), Jvm.Cond.code ({ cls := "com/example/firer/firer/formats/ParserMessagesAtPinLaw", name := "dig", desc := "(Ljava/lang/String;IJII)Z" } : Jvm.MethodName) method_5_code (7 : Nat) (Option.some Jvm.ClassFile.FieldType.boolean), Jvm.Cond.code ({ cls := "com/example/firer/firer/formats/ParserMessagesAtPinLaw", name := "pow10", desc := "(I)J" } : Jvm.MethodName) method_4_code (2 : Nat) (Option.some Jvm.ClassFile.FieldType.long), Jvm.Cond.code ({ cls := "java/lang/String", name := "<init>", desc := "([C)V" } : Jvm.MethodName) jdk_42_method_3_code (2 : Nat) (Option.none : Option Jvm.ClassFile.FieldType), Jvm.Cond.code ({ cls := "java/lang/String", name := "<init>", desc := "([CIILjava/lang/Void;)V" } : Jvm.MethodName) jdk_42_method_149_code (6 : Nat) (Option.none : Option Jvm.ClassFile.FieldType), Jvm.Cond.code ({ cls := "java/lang/StringUTF16", name := "compress", desc := "([CII)[B" } : Jvm.MethodName) jdk_52_method_16_code (6 : Nat) (Option.some (Jvm.ClassFile.FieldType.array Jvm.ClassFile.FieldType.byte)), Jvm.Cond.code ({ cls := "java/lang/StringUTF16", name := "compress", desc := "([CI[BII)I" } : Jvm.MethodName) jdk_52_method_21_code (7 : Nat) (Option.some Jvm.ClassFile.FieldType.int), Jvm.Cond.code ({ cls := "java/lang/StringUTF16", name := "coderFromArrayLen", desc := "([BI)B" } : Jvm.MethodName) jdk_52_method_15_code (2 : Nat) (Option.some Jvm.ClassFile.FieldType.byte)]
set_option maxRecDepth 65536 in
theorem codes_eq : words1.filter isCode = codes1 := rfl
theorem w_codes : ∀ c ∈ words1.filter isCode, c.before args0 about1 = true := by
  rw [codes_eq]
  intro c hc
  simp only [codes1, List.mem_cons, List.not_mem_nil, or_false] at hc
  rcases hc with rfl | rfl | rfl | rfl | rfl | rfl | rfl | rfl | rfl | rfl | rfl | rfl | rfl | rfl | rfl | rfl | rfl | rfl | rfl | rfl | rfl | rfl | rfl | rfl | rfl | rfl | rfl | rfl | rfl | rfl | rfl | rfl | rfl | rfl | rfl | rfl | rfl | rfl | rfl | rfl | rfl | rfl | rfl | rfl | rfl | rfl | rfl | rfl | rfl | rfl | rfl | rfl | rfl
  · exact w_c0
  · exact w_c1
  · exact w_c2
  · exact w_c3
  · exact w_c4
  · exact w_c5
  · exact w_c6
  · exact w_c7
  · exact w_c8
  · exact w_c9
  · exact w_c10
  · exact w_c11
  · exact w_c12
  · exact w_c13
  · exact w_c14
  · exact w_c15
  · exact w_c16
  · exact w_c17
  · exact w_c18
  · exact w_c19
  · exact w_c20
  · exact w_c21
  · exact w_c22
  · exact w_c23
  · exact w_c24
  · exact w_c25
  · exact w_c26
  · exact w_c27
  · exact w_c28
  · exact w_c29
  · exact w_c30
  · exact w_c31
  · exact w_c32
  · exact w_c33
  · exact w_c34
  · exact w_c35
  · exact w_c36
  · exact w_c37
  · exact w_c38
  · exact w_c39
  · exact w_c40
  · exact w_c41
  · exact w_c42
  · exact w_c43
  · exact w_c44
  · exact w_c45
  · exact w_c46
  · exact w_c47
  · exact w_c48
  · exact w_c49
  · exact w_c50
  · exact w_c51
  · exact w_c52
set_option maxRecDepth 65536 in
theorem w_t1 : (words1.take 24).all (fun c => isCode c || c.before args0 about1) = true := by decide +kernel
set_option maxRecDepth 65536 in
theorem w_t2 : ((words1.drop 24).take 24).all (fun c => isCode c || c.before args0 about1) = true := by decide +kernel
set_option maxRecDepth 65536 in
theorem w_t3 : (((words1.drop 24).drop 24).take 24).all (fun c => isCode c || c.before args0 about1) = true := by decide +kernel
set_option maxRecDepth 65536 in
theorem w_t4 : ((((words1.drop 24).drop 24).drop 24).take 24).all (fun c => isCode c || c.before args0 about1) = true := by decide +kernel
set_option maxRecDepth 65536 in
theorem w_t5 : (((((words1.drop 24).drop 24).drop 24).drop 24).take 24).all (fun c => isCode c || c.before args0 about1) = true := by decide +kernel
set_option maxRecDepth 65536 in
theorem w_t6 : ((((((words1.drop 24).drop 24).drop 24).drop 24).drop 24).take 24).all (fun c => isCode c || c.before args0 about1) = true := by decide +kernel
set_option maxRecDepth 65536 in
theorem w_t7 : (((((((words1.drop 24).drop 24).drop 24).drop 24).drop 24).drop 24).take 24).all (fun c => isCode c || c.before args0 about1) = true := by decide +kernel
set_option maxRecDepth 65536 in
theorem w_t8 : ((((((((words1.drop 24).drop 24).drop 24).drop 24).drop 24).drop 24).drop 24).take 24).all (fun c => isCode c || c.before args0 about1) = true := by decide +kernel
set_option maxRecDepth 65536 in
theorem w_t9 : (((((((((words1.drop 24).drop 24).drop 24).drop 24).drop 24).drop 24).drop 24).drop 24).take 24).all (fun c => isCode c || c.before args0 about1) = true := by decide +kernel
set_option maxRecDepth 65536 in
theorem w_t10 : ((((((((((words1.drop 24).drop 24).drop 24).drop 24).drop 24).drop 24).drop 24).drop 24).drop 24).take 24).all (fun c => isCode c || c.before args0 about1) = true := by decide +kernel
set_option maxRecDepth 65536 in
theorem w_t11 : (((((((((((words1.drop 24).drop 24).drop 24).drop 24).drop 24).drop 24).drop 24).drop 24).drop 24).drop 24).take 24).all (fun c => isCode c || c.before args0 about1) = true := by decide +kernel
set_option maxRecDepth 65536 in
theorem w_t12 : (((((((((((words1.drop 24).drop 24).drop 24).drop 24).drop 24).drop 24).drop 24).drop 24).drop 24).drop 24).drop 24).all (fun c => isCode c || c.before args0 about1) = true := by decide +kernel
theorem w_tables : (allAtoms (Jvm.Cond.code x code maxLocals ret :: tables_1)).before args0 about1 = true := by
  rw [allAtoms_all]
  show words1.all (fun c => c.before args0 about1) = true
  refine all_split ?_ w_codes
  rw [← List.take_append_drop 24 words1, List.all_append, w_t1, ← List.take_append_drop 24 (words1.drop 24), List.all_append, w_t2, ← List.take_append_drop 24 ((words1.drop 24).drop 24), List.all_append, w_t3, ← List.take_append_drop 24 (((words1.drop 24).drop 24).drop 24), List.all_append, w_t4, ← List.take_append_drop 24 ((((words1.drop 24).drop 24).drop 24).drop 24), List.all_append, w_t5, ← List.take_append_drop 24 (((((words1.drop 24).drop 24).drop 24).drop 24).drop 24), List.all_append, w_t6, ← List.take_append_drop 24 ((((((words1.drop 24).drop 24).drop 24).drop 24).drop 24).drop 24), List.all_append, w_t7, ← List.take_append_drop 24 (((((((words1.drop 24).drop 24).drop 24).drop 24).drop 24).drop 24).drop 24), List.all_append, w_t8, ← List.take_append_drop 24 ((((((((words1.drop 24).drop 24).drop 24).drop 24).drop 24).drop 24).drop 24).drop 24), List.all_append, w_t9, ← List.take_append_drop 24 (((((((((words1.drop 24).drop 24).drop 24).drop 24).drop 24).drop 24).drop 24).drop 24).drop 24), List.all_append, w_t10, ← List.take_append_drop 24 ((((((((((words1.drop 24).drop 24).drop 24).drop 24).drop 24).drop 24).drop 24).drop 24).drop 24).drop 24), List.all_append, w_t11, w_t12]
  rfl
set_option maxRecDepth 65536 in
theorem w_rest : rest_1_c.before args0 about1 = true := by decide +kernel
set_option maxRecDepth 65536 in
theorem w_case : (Jvm.Cond.and given_1 narrow_1).before args0 about1 = true := by decide +kernel
set_option maxRecDepth 65536 in
theorem w_consts : constsHeld consts_1 about1 := Jvm.Lit.constsHeldB_iff.mp (by decide +kernel)
theorem w_applies : (headSpec (Jvm.Cond.code x code maxLocals ret :: tables_1) room_1).applies x e0.platform about1 = true :=
  (Spec.applies_iff w_frames).mpr ⟨w_running, w_runnable, w_alone, w_named, w_hears, w_ripe, w_room, w_tables⟩
theorem atStart : AtStart classFile x code maxLocals ret World_1 tables_1 room_1 Calls_1 rest_1 Pre_1 launch0 p0 e0 about1 theMethod args0 below0 :=
  ⟨lists_1, trivial, launch0.admits_env _ _ _, launch0.least_env, fairChoices_fair.cas, fairChoices_fair.clock, w_frames, w_args, w_heap, w_applies, ⟨w_consts, trivial⟩, w_rest, w_case⟩
end start1
theorem witness_1 : WitnessClaimed_1 := ⟨start1.p0, start1.e0, start1.about1, start1.theMethod, start1.args0, start1.below0, start1.atStart⟩
end Jvm.Pilot.@@N@@
