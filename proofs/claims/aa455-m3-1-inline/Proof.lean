import JvmDerived
import JvmDerived.Pilot.@@N@@Statement
import JvmDerived.Pilot.@@N@@Code
set_option linter.unusedVariables false
set_option linter.unusedSimpArgs false
@@BLOCK:NumsL.lean.txt@@
namespace Jvm.Own
open Sem ClassFile Op Lib Jvm.Stand Jvm.Free Jvm.LawKit Jvm.RoadKit
/-- from the state A the run comes to an end that meets G -/
def Goes (tb : Tables) (e : Env) (below : List Frame) (G : Outcome → State → Prop) (A : State) : Prop := ∃ s₂ o, Steps tb e below A s₂ ∧ s₂.status = .running ∧ Ended s₂ below o ∧ G o s₂
/-- what a body's walk may lean on throughout -/
def Ctx (p : Program) (Z s : State) (m : MethodId) (meth : Method) (c : Code) (bs : ByteArray) (own : String) (maxL : Nat) (ret : Option FieldType) : Prop :=
  p.tables.exec = Jvm.exec ∧ Z.Warmed39 s.vm ∧ c.code = bs ∧ c.maxLocals = maxL ∧ s.vm.findClass own = some m.cls ∧ meth.sig.returnType = ret ∧ meth.locks = false
section Kit
variable {p : Program} {l : Launch} {e : Env} {R : Room} {s : State} {m : MethodId} {args : Array Value} {below : List Frame} {meth : Method} {c : Code} {T : State} {locs : List Loc} {cells slots : Nat} {Z : State} {a0 : Array Value} {h : Heap} {G : Outcome → State → Prop} {bs : ByteArray} {own : String} {maxL : Nat} {ret : Option FieldType}
theorem Goes.on {tb : Tables} {A B : State} (k : ∀ t, Steps tb e below B t → Steps tb e below A t) (h : Goes tb e below G B) : Goes tb e below G A := by
  obtain ⟨s2, o, h1, h2⟩ := h
  exact ⟨s2, o, k _ h1, h2⟩
theorem Goes.to {tb : Tables} {A B : State} (q : A = B) (h : Goes tb e below G B) : Goes tb e below G A := q ▸ h
theorem body_of {y : MethodName} {bytes : ByteArray} {ws : List Cond} {as' : Array Value} {h0 : Heap} {Q : Option Value → Heap → List Loc → Prop} (hplain : plainFor y = true)
    (H : ∀ p e s m below meth c s₁ G, Ctx p Z s m meth c bytes y.cls maxL ret → meth.name = y.name → s.methodNamed? y = some m → Stand p l e R s m as' below meth c s₁ [] 0 0 → s₁.heap = h0 →
      (∀ (v : Option Value) (L : List Loc) (T' : State), Q v T'.heap L → s.WarmedH T'.vm → s.sameButNew ({ T' with vm := s.vm } : State) L R.cells R.slots → G (.returned v) T') →
      Goes p.tables e below G (s₁.setTop (entryFrame m as' maxL))) :
    MetFree l y (head1 (Cond.code y bytes maxL ret :: ws) R) (fun a U => a = as' ∧ Z.Warmed39 U.vm ∧ U.heap = h0) (fun _ _ _ _ _ => True) (fun _ U o U' => ∃ v L, o = .returned v ∧ Q v U'.heap L ∧ FrameEnd U o U' L R.cells R.slots) := by
  refine MetFree.of_bodySF hplain hisR ?_
  intro p e s m args below meth c s₁ Bd hml0 hP hK
  obtain ⟨rfl, hZ, hh⟩ := hP
  exact H p e s m below meth c s₁ _ ⟨Bd.exec, hZ, Bd.bytes, hml0, findClass_of_methodNamed Bd.named, Bd.returns, BodyLoose.notSynchronized Bd⟩ (name_of_methodNamed Bd.named Bd.method).1 Bd.named (Stand.of_body Bd) (by rw [← hh, Bd.state]; rfl)
    (fun v L T' hQ hW hS => ⟨v, L, rfl, hQ, ⟨_, rfl⟩, hW, hS⟩)
abbrev jv (x : Int64) : Slot := .val (.long x)
abbrev nv : Slot := .val .null
abbrev uu : Slot := .unset
abbrev sd : Slot := .second
abbrev OwnMF (l : Launch) (Z : State) (y : MethodName) (bytes : ByteArray) (maxL : Nat) (ret : Option FieldType) (ws : List Cond) (R : Room) (as' : Array Value) (h0 : Heap) (Q : Option Value → Heap → List Loc → Prop) : Prop := MetFree l y (head1 (Cond.code y bytes maxL ret :: ws) R) (fun a U => a = as' ∧ Z.Warmed39 U.vm ∧ U.heap = h0) (fun _ _ _ _ _ => True) (fun _ U o U' => ∃ v L, o = .returned v ∧ Q v U'.heap L ∧ FrameEnd U o U' L R.cells R.slots)
abbrev OwnMFH (l : Launch) (Z : State) (EL : List (String × Nat)) (y : MethodName) (bytes : ByteArray) (maxL : Nat) (ret : Option FieldType) (ws : List Cond) (R : Room) (as' : Array Value) (h0 : Heap) (Q : Option Value → Heap → List Loc → Prop) : Prop := MetFree l y (head1 (Cond.code y bytes maxL ret :: ws) R) (fun a U => a = as' ∧ Z.Warmed39 U.vm ∧ U.heap = h0 ∧ CHv Z EL U.vm h0) (fun _ _ _ _ _ => True) (fun _ U o U' => ∃ v L, o = .returned v ∧ Q v U'.heap L ∧ CHr Z EL U.vm U.heap U'.vm U'.heap ∧ ReturnedEndW U o U' L R.cells R.slots)
theorem ret1 {pc : Nat} {ls : Array Slot} {v : Value} {rest : List Value} (h : Goes p.tables e below G (T.setTop (mkF m pc ls (v :: rest)))) : Goes p.tables e below G (T.setTop (mkF m pc ls ((some v).toList ++ rest))) := h
theorem ret0 {pc : Nat} {ls : Array Slot} {rest : List Value} (h : Goes p.tables e below G (T.setTop (mkF m pc ls rest))) : Goes p.tables e below G (T.setTop (mkF m pc ls ((none : Option Value).toList ++ rest))) := h
theorem g_iloadN (C : Ctx p Z s m meth c bs own maxL ret) (X : Stand p l e R s m args below meth c T locs cells slots) {pc : Nat} {ls : Array Slot} {st : List Value} {k : Fin 4} {v : Int32} (hd : decode bs pc = .ok (.iload_n k, 1)) (pc' : Nat) (hl : ls[k.val]? = some (.val (.int v))) (k : Goes p.tables e below G (T.setTop (mkF m pc' ls (.int v :: st)))) (hp : pc + 1 = pc' := by rfl) : Goes p.tables e below G (T.setTop (mkF m pc ls st)) := by
  subst hp
  exact Goes.on (fun _ k => XS.iloadN X.here C.1 rfl (hb C.2.2.1 hd) hl k) k
theorem g_iload (C : Ctx p Z s m meth c bs own maxL ret) (X : Stand p l e R s m args below meth c T locs cells slots) {pc : Nat} {ls : Array Slot} {st : List Value} {k : Nat} {v : Int32} (hd : decode bs pc = .ok (.iload k, 2)) (pc' : Nat) (hl : ls[k]? = some (.val (.int v))) (k : Goes p.tables e below G (T.setTop (mkF m pc' ls (.int v :: st)))) (hp : pc + 2 = pc' := by rfl) : Goes p.tables e below G (T.setTop (mkF m pc ls st)) := by
  subst hp
  exact Goes.on (fun _ k => XS.iload X.here C.1 rfl (hb C.2.2.1 hd) hl k) k
theorem g_istoreN (C : Ctx p Z s m meth c bs own maxL ret) (X : Stand p l e R s m args below meth c T locs cells slots) {pc : Nat} {ls ls' : Array Slot} {st : List Value} {k : Fin 4} {v w : Int32} (hd : decode bs pc = .ok (.istore_n k, 1)) (pc' : Nat) (hv : v = w) (hl : storeLocals ls k.val (.int w) = some ls') (k : Goes p.tables e below G (T.setTop (mkF m pc' ls' st))) (hp : pc + 1 = pc' := by rfl) : Goes p.tables e below G (T.setTop (mkF m pc ls (.int v :: st))) := by
  subst hp hv
  exact Goes.on (fun _ k => XS.istoreN X.here C.1 rfl (hb C.2.2.1 hd) rfl hl k) k
theorem g_istore (C : Ctx p Z s m meth c bs own maxL ret) (X : Stand p l e R s m args below meth c T locs cells slots) {pc : Nat} {ls ls' : Array Slot} {st : List Value} {k : Nat} {v w : Int32} (hd : decode bs pc = .ok (.istore k, 2)) (pc' : Nat) (hv : v = w) (hl : storeLocals ls k (.int w) = some ls') (k : Goes p.tables e below G (T.setTop (mkF m pc' ls' st))) (hp : pc + 2 = pc' := by rfl) : Goes p.tables e below G (T.setTop (mkF m pc ls (.int v :: st))) := by
  subst hp hv
  exact Goes.on (fun _ k => XS.istore X.here C.1 rfl (hb C.2.2.1 hd) rfl hl k) k
theorem g_lloadN (C : Ctx p Z s m meth c bs own maxL ret) (X : Stand p l e R s m args below meth c T locs cells slots) {pc : Nat} {ls : Array Slot} {st : List Value} {k : Fin 4} {v : Int64} (hd : decode bs pc = .ok (.lload_n k, 1)) (pc' : Nat) (hl : ls[k.val]? = some (.val (.long v))) (k : Goes p.tables e below G (T.setTop (mkF m pc' ls (.long v :: st)))) (hp : pc + 1 = pc' := by rfl) : Goes p.tables e below G (T.setTop (mkF m pc ls st)) := by
  subst hp
  exact Goes.on (fun _ k => XT.lloadN X.here C.1 rfl (hb C.2.2.1 hd) hl k) k
theorem g_lload (C : Ctx p Z s m meth c bs own maxL ret) (X : Stand p l e R s m args below meth c T locs cells slots) {pc : Nat} {ls : Array Slot} {st : List Value} {k : Nat} {v : Int64} (hd : decode bs pc = .ok (.lload k, 2)) (pc' : Nat) (hl : ls[k]? = some (.val (.long v))) (k : Goes p.tables e below G (T.setTop (mkF m pc' ls (.long v :: st)))) (hp : pc + 2 = pc' := by rfl) : Goes p.tables e below G (T.setTop (mkF m pc ls st)) := by
  subst hp
  exact Goes.on (fun _ k => XT.lload X.here C.1 rfl (hb C.2.2.1 hd) hl k) k
theorem g_lstore (C : Ctx p Z s m meth c bs own maxL ret) (X : Stand p l e R s m args below meth c T locs cells slots) {pc : Nat} {ls ls' : Array Slot} {st : List Value} {k : Nat} {v w : Int64} (hd : decode bs pc = .ok (.lstore k, 2)) (pc' : Nat) (hv : v = w) (hl : storeLocals ls k (.long w) = some ls') (k : Goes p.tables e below G (T.setTop (mkF m pc' ls' st))) (hp : pc + 2 = pc' := by rfl) : Goes p.tables e below G (T.setTop (mkF m pc ls (.long v :: st))) := by
  subst hp hv
  exact Goes.on (fun _ k => XT.lstore X.here C.1 rfl (hb C.2.2.1 hd) rfl hl k) k
theorem g_aloadN (C : Ctx p Z s m meth c bs own maxL ret) (X : Stand p l e R s m args below meth c T locs cells slots) {pc : Nat} {ls : Array Slot} {st : List Value} {k : Fin 4} {v : Value} (hd : decode bs pc = .ok (.aload_n k, 1)) (pc' : Nat) (hl : ls[k.val]? = some (.val v)) (hv : v.isRef = true) (k : Goes p.tables e below G (T.setTop (mkF m pc' ls (v :: st)))) (hp : pc + 1 = pc' := by rfl) : Goes p.tables e below G (T.setTop (mkF m pc ls st)) := by
  subst hp
  exact Goes.on (fun _ k => XS.aloadN X.here C.1 rfl (hb C.2.2.1 hd) hl hv k) k
theorem g_aload (C : Ctx p Z s m meth c bs own maxL ret) (X : Stand p l e R s m args below meth c T locs cells slots) {pc : Nat} {ls : Array Slot} {st : List Value} {k : Nat} {v : Value} (hd : decode bs pc = .ok (.aload k, 2)) (pc' : Nat) (hl : ls[k]? = some (.val v)) (hv : v.isRef = true) (k : Goes p.tables e below G (T.setTop (mkF m pc' ls (v :: st)))) (hp : pc + 2 = pc' := by rfl) : Goes p.tables e below G (T.setTop (mkF m pc ls st)) := by
  subst hp
  exact Goes.on (fun _ k => XS.aload X.here C.1 rfl (hb C.2.2.1 hd) hl hv k) k
theorem g_astoreN (C : Ctx p Z s m meth c bs own maxL ret) (X : Stand p l e R s m args below meth c T locs cells slots) {pc : Nat} {ls ls' : Array Slot} {st : List Value} {k : Fin 4} {v : Value} (hd : decode bs pc = .ok (.astore_n k, 1)) (pc' : Nat) (hv : v.isRef = true) (hl : storeLocals ls k.val v = some ls') (k : Goes p.tables e below G (T.setTop (mkF m pc' ls' st))) (hp : pc + 1 = pc' := by rfl) : Goes p.tables e below G (T.setTop (mkF m pc ls (v :: st))) := by
  subst hp
  exact Goes.on (fun _ k => XS.astoreN X.here C.1 rfl (hb C.2.2.1 hd) rfl hv hl k) k
theorem g_astore (C : Ctx p Z s m meth c bs own maxL ret) (X : Stand p l e R s m args below meth c T locs cells slots) {pc : Nat} {ls ls' : Array Slot} {st : List Value} {k : Nat} {v : Value} (hd : decode bs pc = .ok (.astore k, 2)) (pc' : Nat) (hv : v.isRef = true) (hl : storeLocals ls k v = some ls') (k : Goes p.tables e below G (T.setTop (mkF m pc' ls' st))) (hp : pc + 2 = pc' := by rfl) : Goes p.tables e below G (T.setTop (mkF m pc ls (v :: st))) := by
  subst hp
  exact Goes.on (fun _ k => XS.astore X.here C.1 rfl (hb C.2.2.1 hd) rfl hv hl k) k
theorem g_iconst (C : Ctx p Z s m meth c bs own maxL ret) (X : Stand p l e R s m args below meth c T locs cells slots) {pc : Nat} {ls : Array Slot} {st : List Value} {i : Int} {v : Int32} (hd : decode bs pc = .ok (.iconst i, 1)) (pc' : Nat) (hv : Int32.ofInt i = v) (k : Goes p.tables e below G (T.setTop (mkF m pc' ls (.int v :: st)))) (hp : pc + 1 = pc' := by rfl) : Goes p.tables e below G (T.setTop (mkF m pc ls st)) := by
  subst hp hv
  exact Goes.on (fun _ k => XS.iconst X.here C.1 rfl (hb C.2.2.1 hd) k) k
theorem g_bipush (C : Ctx p Z s m meth c bs own maxL ret) (X : Stand p l e R s m args below meth c T locs cells slots) {pc : Nat} {ls : Array Slot} {st : List Value} {i : Int} {v : Int32} (hd : decode bs pc = .ok (.bipush i, 2)) (pc' : Nat) (hv : (Int8.ofInt i).toInt32 = v) (k : Goes p.tables e below G (T.setTop (mkF m pc' ls (.int v :: st)))) (hp : pc + 2 = pc' := by rfl) : Goes p.tables e below G (T.setTop (mkF m pc ls st)) := by
  subst hp hv
  exact Goes.on (fun _ k => XS.bipush X.here C.1 rfl (hb C.2.2.1 hd) k) k
theorem g_sipush (C : Ctx p Z s m meth c bs own maxL ret) (X : Stand p l e R s m args below meth c T locs cells slots) {pc : Nat} {ls : Array Slot} {st : List Value} {i : Int} {v : Int32} (hd : decode bs pc = .ok (.sipush i, 3)) (pc' : Nat) (hv : (Int16.ofInt i).toInt32 = v) (k : Goes p.tables e below G (T.setTop (mkF m pc' ls (.int v :: st)))) (hp : pc + 3 = pc' := by rfl) : Goes p.tables e below G (T.setTop (mkF m pc ls st)) := by
  subst hp hv
  exact Goes.on (fun _ k => XS.sipush X.here C.1 rfl (hb C.2.2.1 hd) k) k
theorem g_lconst (C : Ctx p Z s m meth c bs own maxL ret) (X : Stand p l e R s m args below meth c T locs cells slots) {pc : Nat} {ls : Array Slot} {st : List Value} {i : Fin 2} {v : Int64} (hd : decode bs pc = .ok (.lconst i, 1)) (pc' : Nat) (hv : Int64.ofNat i = v) (k : Goes p.tables e below G (T.setTop (mkF m pc' ls (.long v :: st)))) (hp : pc + 1 = pc' := by rfl) : Goes p.tables e below G (T.setTop (mkF m pc ls st)) := by
  subst hp hv
  exact Goes.on (fun _ k => XT.lconst X.here C.1 rfl (hb C.2.2.1 hd) k) k
theorem g_aconstNull (C : Ctx p Z s m meth c bs own maxL ret) (X : Stand p l e R s m args below meth c T locs cells slots) {pc : Nat} {ls : Array Slot} {st : List Value} (hd : decode bs pc = .ok (.aconst_null, 1)) (pc' : Nat) (k : Goes p.tables e below G (T.setTop (mkF m pc' ls (.null :: st)))) (hp : pc + 1 = pc' := by rfl) : Goes p.tables e below G (T.setTop (mkF m pc ls st)) := by
  subst hp
  exact Goes.on (fun _ k => XS.aconstNull X.here C.1 rfl (hb C.2.2.1 hd) k) k
theorem g_iadd (C : Ctx p Z s m meth c bs own maxL ret) (X : Stand p l e R s m args below meth c T locs cells slots) {pc : Nat} {ls : Array Slot} {st : List Value} {x y : Int32} (hd : decode bs pc = .ok (.iadd, 1)) (pc' : Nat) (k : Goes p.tables e below G (T.setTop (mkF m pc' ls (.int (x + y) :: st)))) (hp : pc + 1 = pc' := by rfl) : Goes p.tables e below G (T.setTop (mkF m pc ls (.int y :: .int x :: st))) := by
  subst hp
  exact Goes.on (fun _ k => XS.iadd X.here C.1 rfl (hb C.2.2.1 hd) rfl k) k
theorem g_isub (C : Ctx p Z s m meth c bs own maxL ret) (X : Stand p l e R s m args below meth c T locs cells slots) {pc : Nat} {ls : Array Slot} {st : List Value} {x y : Int32} (hd : decode bs pc = .ok (.isub, 1)) (pc' : Nat) (k : Goes p.tables e below G (T.setTop (mkF m pc' ls (.int (x - y) :: st)))) (hp : pc + 1 = pc' := by rfl) : Goes p.tables e below G (T.setTop (mkF m pc ls (.int y :: .int x :: st))) := by
  subst hp
  exact Goes.on (fun _ k => XS.isub X.here C.1 rfl (hb C.2.2.1 hd) rfl k) k
theorem g_imul (C : Ctx p Z s m meth c bs own maxL ret) (X : Stand p l e R s m args below meth c T locs cells slots) {pc : Nat} {ls : Array Slot} {st : List Value} {x y : Int32} (hd : decode bs pc = .ok (.imul, 1)) (pc' : Nat) (k : Goes p.tables e below G (T.setTop (mkF m pc' ls (.int (x * y) :: st)))) (hp : pc + 1 = pc' := by rfl) : Goes p.tables e below G (T.setTop (mkF m pc ls (.int y :: .int x :: st))) := by
  subst hp
  exact Goes.on (fun _ k => XS.imul X.here C.1 rfl (hb C.2.2.1 hd) rfl k) k
theorem g_iand (C : Ctx p Z s m meth c bs own maxL ret) (X : Stand p l e R s m args below meth c T locs cells slots) {pc : Nat} {ls : Array Slot} {st : List Value} {x y : Int32} (hd : decode bs pc = .ok (.iand, 1)) (pc' : Nat) (k : Goes p.tables e below G (T.setTop (mkF m pc' ls (.int (x &&& y) :: st)))) (hp : pc + 1 = pc' := by rfl) : Goes p.tables e below G (T.setTop (mkF m pc ls (.int y :: .int x :: st))) := by
  subst hp
  exact Goes.on (fun _ k => XS.iand X.here C.1 rfl (hb C.2.2.1 hd) rfl k) k
theorem g_ishl (C : Ctx p Z s m meth c bs own maxL ret) (X : Stand p l e R s m args below meth c T locs cells slots) {pc : Nat} {ls : Array Slot} {st : List Value} {x y : Int32} (hd : decode bs pc = .ok (.ishl, 1)) (pc' : Nat) (k : Goes p.tables e below G (T.setTop (mkF m pc' ls (.int (x <<< (y &&& 31)) :: st)))) (hp : pc + 1 = pc' := by rfl) : Goes p.tables e below G (T.setTop (mkF m pc ls (.int y :: .int x :: st))) := by
  subst hp
  exact Goes.on (fun _ k => XT.ishl X.here C.1 rfl (hb C.2.2.1 hd) rfl k) k
theorem g_ishr (C : Ctx p Z s m meth c bs own maxL ret) (X : Stand p l e R s m args below meth c T locs cells slots) {pc : Nat} {ls : Array Slot} {st : List Value} {x y : Int32} (hd : decode bs pc = .ok (.ishr, 1)) (pc' : Nat) (k : Goes p.tables e below G (T.setTop (mkF m pc' ls (.int (x >>> (y &&& 31)) :: st)))) (hp : pc + 1 = pc' := by rfl) : Goes p.tables e below G (T.setTop (mkF m pc ls (.int y :: .int x :: st))) := by
  subst hp
  exact Goes.on (fun _ k => XT.ishr X.here C.1 rfl (hb C.2.2.1 hd) rfl k) k
theorem g_iushr (C : Ctx p Z s m meth c bs own maxL ret) (X : Stand p l e R s m args below meth c T locs cells slots) {pc : Nat} {ls : Array Slot} {st : List Value} {x y : Int32} (hd : decode bs pc = .ok (.iushr, 1)) (pc' : Nat) (k : Goes p.tables e below G (T.setTop (mkF m pc' ls (.int (XT.ushr x y) :: st)))) (hp : pc + 1 = pc' := by rfl) : Goes p.tables e below G (T.setTop (mkF m pc ls (.int y :: .int x :: st))) := by
  subst hp
  exact Goes.on (fun _ k => XT.iushr X.here C.1 rfl (hb C.2.2.1 hd) rfl k) k
theorem g_idiv (C : Ctx p Z s m meth c bs own maxL ret) (X : Stand p l e R s m args below meth c T locs cells slots) {pc : Nat} {ls : Array Slot} {st : List Value} {x y : Int32} (hd : decode bs pc = .ok (.idiv, 1)) (pc' : Nat) (hy : y ≠ 0) (k : Goes p.tables e below G (T.setTop (mkF m pc' ls (.int (x / y) :: st)))) (hp : pc + 1 = pc' := by rfl) : Goes p.tables e below G (T.setTop (mkF m pc ls (.int y :: .int x :: st))) := by
  subst hp
  exact Goes.on (fun _ k => XS.idiv X.here C.1 rfl (hb C.2.2.1 hd) rfl hy k) k
theorem g_ldiv (C : Ctx p Z s m meth c bs own maxL ret) (X : Stand p l e R s m args below meth c T locs cells slots) {pc : Nat} {ls : Array Slot} {st : List Value} {x y : Int64} (hd : decode bs pc = .ok (.ldiv, 1)) (pc' : Nat) (hy : y ≠ 0) (k : Goes p.tables e below G (T.setTop (mkF m pc' ls (.long (x / y) :: st)))) (hp : pc + 1 = pc' := by rfl) : Goes p.tables e below G (T.setTop (mkF m pc ls (.long y :: .long x :: st))) := by
  subst hp
  exact Goes.on (fun _ k => XT.ldiv X.here C.1 rfl (hb C.2.2.1 hd) rfl hy k) k
theorem g_lrem (C : Ctx p Z s m meth c bs own maxL ret) (X : Stand p l e R s m args below meth c T locs cells slots) {pc : Nat} {ls : Array Slot} {st : List Value} {x y : Int64} (hd : decode bs pc = .ok (.lrem, 1)) (pc' : Nat) (hy : y ≠ 0) (k : Goes p.tables e below G (T.setTop (mkF m pc' ls (.long (x - (x / y) * y) :: st)))) (hp : pc + 1 = pc' := by rfl) : Goes p.tables e below G (T.setTop (mkF m pc ls (.long y :: .long x :: st))) := by
  subst hp
  exact Goes.on (fun _ k => XT.lrem X.here C.1 rfl (hb C.2.2.1 hd) rfl hy k) k
theorem g_ineg (C : Ctx p Z s m meth c bs own maxL ret) (X : Stand p l e R s m args below meth c T locs cells slots) {pc : Nat} {ls : Array Slot} {st : List Value} {x : Int32} (hd : decode bs pc = .ok (.ineg, 1)) (pc' : Nat) (k : Goes p.tables e below G (T.setTop (mkF m pc' ls (.int (-x) :: st)))) (hp : pc + 1 = pc' := by rfl) : Goes p.tables e below G (T.setTop (mkF m pc ls (.int x :: st))) := by
  subst hp
  exact Goes.on (fun _ k => XS.ineg X.here C.1 rfl (hb C.2.2.1 hd) rfl k) k
theorem g_lneg (C : Ctx p Z s m meth c bs own maxL ret) (X : Stand p l e R s m args below meth c T locs cells slots) {pc : Nat} {ls : Array Slot} {st : List Value} {x : Int64} (hd : decode bs pc = .ok (.lneg, 1)) (pc' : Nat) (k : Goes p.tables e below G (T.setTop (mkF m pc' ls (.long (-x) :: st)))) (hp : pc + 1 = pc' := by rfl) : Goes p.tables e below G (T.setTop (mkF m pc ls (.long x :: st))) := by
  subst hp
  exact Goes.on (fun _ k => XT.lneg X.here C.1 rfl (hb C.2.2.1 hd) rfl k) k
theorem g_i2l (C : Ctx p Z s m meth c bs own maxL ret) (X : Stand p l e R s m args below meth c T locs cells slots) {pc : Nat} {ls : Array Slot} {st : List Value} {x : Int32} (hd : decode bs pc = .ok (.i2l, 1)) (pc' : Nat) (k : Goes p.tables e below G (T.setTop (mkF m pc' ls (.long x.toInt64 :: st)))) (hp : pc + 1 = pc' := by rfl) : Goes p.tables e below G (T.setTop (mkF m pc ls (.int x :: st))) := by
  subst hp
  exact Goes.on (fun _ k => XT.i2l X.here C.1 rfl (hb C.2.2.1 hd) rfl k) k
theorem g_l2i (C : Ctx p Z s m meth c bs own maxL ret) (X : Stand p l e R s m args below meth c T locs cells slots) {pc : Nat} {ls : Array Slot} {st : List Value} {x : Int64} (hd : decode bs pc = .ok (.l2i, 1)) (pc' : Nat) (k : Goes p.tables e below G (T.setTop (mkF m pc' ls (.int x.toInt32 :: st)))) (hp : pc + 1 = pc' := by rfl) : Goes p.tables e below G (T.setTop (mkF m pc ls (.long x :: st))) := by
  subst hp
  exact Goes.on (fun _ k => XT.l2i X.here C.1 rfl (hb C.2.2.1 hd) rfl k) k
theorem g_i2c (C : Ctx p Z s m meth c bs own maxL ret) (X : Stand p l e R s m args below meth c T locs cells slots) {pc : Nat} {ls : Array Slot} {st : List Value} {x : Int32} (hd : decode bs pc = .ok (.i2c, 1)) (pc' : Nat) (k : Goes p.tables e below G (T.setTop (mkF m pc' ls (.int x.toUInt32.toUInt16.toUInt32.toInt32 :: st)))) (hp : pc + 1 = pc' := by rfl) : Goes p.tables e below G (T.setTop (mkF m pc ls (.int x :: st))) := by
  subst hp
  exact Goes.on (fun _ k => XT.i2c X.here C.1 rfl (hb C.2.2.1 hd) rfl k) k
theorem g_i2b (C : Ctx p Z s m meth c bs own maxL ret) (X : Stand p l e R s m args below meth c T locs cells slots) {pc : Nat} {ls : Array Slot} {st : List Value} {x : Int32} (hd : decode bs pc = .ok (.i2b, 1)) (pc' : Nat) (k : Goes p.tables e below G (T.setTop (mkF m pc' ls (.int x.toInt8.toInt32 :: st)))) (hp : pc + 1 = pc' := by rfl) : Goes p.tables e below G (T.setTop (mkF m pc ls (.int x :: st))) := by
  subst hp
  exact Goes.on (fun _ k => XT.i2b X.here C.1 rfl (hb C.2.2.1 hd) rfl k) k
theorem g_dup (C : Ctx p Z s m meth c bs own maxL ret) (X : Stand p l e R s m args below meth c T locs cells slots) {pc : Nat} {ls : Array Slot} {st : List Value} {x : Value} (hd : decode bs pc = .ok (.dup, 1)) (pc' : Nat) (hc : x.category = 1) (k : Goes p.tables e below G (T.setTop (mkF m pc' ls (x :: x :: st)))) (hp : pc + 1 = pc' := by rfl) : Goes p.tables e below G (T.setTop (mkF m pc ls (x :: st))) := by
  subst hp
  exact Goes.on (fun _ k => XS.dup X.here C.1 rfl (hb C.2.2.1 hd) rfl hc k) k
theorem g_pop (C : Ctx p Z s m meth c bs own maxL ret) (X : Stand p l e R s m args below meth c T locs cells slots) {pc : Nat} {ls : Array Slot} {st : List Value} {x : Value} (hd : decode bs pc = .ok (.pop, 1)) (pc' : Nat) (hc : x.category = 1) (k : Goes p.tables e below G (T.setTop (mkF m pc' ls st))) (hp : pc + 1 = pc' := by rfl) : Goes p.tables e below G (T.setTop (mkF m pc ls (x :: st))) := by
  subst hp
  exact Goes.on (fun _ k => XT.pop X.here C.1 rfl (hb C.2.2.1 hd) rfl hc k) k
theorem g_iinc (C : Ctx p Z s m meth c bs own maxL ret) (X : Stand p l e R s m args below meth c T locs cells slots) {pc : Nat} {ls ls' : Array Slot} {st : List Value} {k : Nat} {cst : Int} {x w : Int32} (hd : decode bs pc = .ok (.iinc k cst, 3)) (pc' : Nat) (hl : ls[k]? = some (.val (.int x))) (hv : x + Int32.ofInt cst = w) (hl' : storeLocals ls k (.int w) = some ls') (k : Goes p.tables e below G (T.setTop (mkF m pc' ls' st))) (hp : pc + 3 = pc' := by rfl) : Goes p.tables e below G (T.setTop (mkF m pc ls st)) := by
  subst hp hv
  exact Goes.on (fun _ k => XS.iinc X.here C.1 rfl (hb C.2.2.1 hd) hl hl' k) k
theorem g_goto (C : Ctx p Z s m meth c bs own maxL ret) (X : Stand p l e R s m args below meth c T locs cells slots) {pc : Nat} {ls : Array Slot} {st : List Value} {o : Int} (hd : decode bs pc = .ok (.goto o, 3)) (pc' : Nat) (k : Goes p.tables e below G (T.setTop (mkF m pc' ls st))) (ho : 0 ≤ (pc : Int) + o := by decide) (hp : ((pc : Int) + o).toNat = pc' := by decide) : Goes p.tables e below G (T.setTop (mkF m pc ls st)) :=
  Goes.on (fun _ k => XS.goto X.here C.1 rfl (pc0 := pc) (pc' := pc') rfl (hb C.2.2.1 hd) ho hp k) k
theorem cmpL_lt (x y : Int64) : XT.cmpL x y < 0 ↔ x < y := by unfold XT.cmpL; split <;> (try split) <;> simp_all [Int64.lt_iff_toInt_lt, ← Int64.toInt_inj] <;> omega
theorem g_icmp_eq (C : Ctx p Z s m meth c bs own maxL ret) (X : Stand p l e R s m args below meth c T locs cells slots) {pc : Nat} {ls : Array Slot} {st : List Value} {x y : Int32} {o : Int} (hd : decode bs pc = .ok (.if_icmp .eq o, 3)) (pcT pcN : Nat) (hyes : x = y → Goes p.tables e below G (T.setTop (mkF m pcT ls st))) (hno : ¬ x = y → Goes p.tables e below G (T.setTop (mkF m pcN ls st))) (ho : 0 ≤ (pc : Int) + o := by decide) (hp : ((pc : Int) + o).toNat = pcT := by decide) (hq : pc + 3 = pcN := by rfl) : Goes p.tables e below G (T.setTop (mkF m pc ls (.int y :: .int x :: st))) := by
  subst hq
  by_cases q : x = y
  · exact Goes.on (fun _ k => XS.icmpYes X.here C.1 rfl (pc0 := pc) (pc' := pcT) rfl (hb C.2.2.1 hd) rfl (teq q).1 ho hp k) (hyes q)
  · exact Goes.on (fun _ k => XS.icmpNo X.here C.1 rfl (hb C.2.2.1 hd) rfl (feq q).1 k) (hno q)
theorem g_if_eq (C : Ctx p Z s m meth c bs own maxL ret) (X : Stand p l e R s m args below meth c T locs cells slots) {pc : Nat} {ls : Array Slot} {st : List Value} {x : Int32} {o : Int} (hd : decode bs pc = .ok (.ifCond .eq o, 3)) (pcT pcN : Nat) (hyes : x = (0 : Int32) → Goes p.tables e below G (T.setTop (mkF m pcT ls st))) (hno : ¬ x = (0 : Int32) → Goes p.tables e below G (T.setTop (mkF m pcN ls st))) (ho : 0 ≤ (pc : Int) + o := by decide) (hp : ((pc : Int) + o).toNat = pcT := by decide) (hq : pc + 3 = pcN := by rfl) : Goes p.tables e below G (T.setTop (mkF m pc ls (.int x :: st))) := by
  subst hq
  by_cases q : x = (0 : Int32)
  · exact Goes.on (fun _ k => XS.ifYes X.here C.1 rfl (pc0 := pc) (pc' := pcT) rfl (hb C.2.2.1 hd) rfl ((if0 _ _).trans (teq q).1) ho hp k) (hyes q)
  · exact Goes.on (fun _ k => XS.ifNo X.here C.1 rfl (hb C.2.2.1 hd) rfl ((if0 _ _).trans (feq q).1) k) (hno q)
theorem g_icmp_ne (C : Ctx p Z s m meth c bs own maxL ret) (X : Stand p l e R s m args below meth c T locs cells slots) {pc : Nat} {ls : Array Slot} {st : List Value} {x y : Int32} {o : Int} (hd : decode bs pc = .ok (.if_icmp .ne o, 3)) (pcT pcN : Nat) (hyes : ¬ x = y → Goes p.tables e below G (T.setTop (mkF m pcT ls st))) (hno : x = y → Goes p.tables e below G (T.setTop (mkF m pcN ls st))) (ho : 0 ≤ (pc : Int) + o := by decide) (hp : ((pc : Int) + o).toNat = pcT := by decide) (hq : pc + 3 = pcN := by rfl) : Goes p.tables e below G (T.setTop (mkF m pc ls (.int y :: .int x :: st))) := by
  subst hq
  by_cases q : x = y
  · exact Goes.on (fun _ k => XS.icmpNo X.here C.1 rfl (hb C.2.2.1 hd) rfl (teq q).2 k) (hno q)
  · exact Goes.on (fun _ k => XS.icmpYes X.here C.1 rfl (pc0 := pc) (pc' := pcT) rfl (hb C.2.2.1 hd) rfl (feq q).2 ho hp k) (hyes q)
theorem g_if_ne (C : Ctx p Z s m meth c bs own maxL ret) (X : Stand p l e R s m args below meth c T locs cells slots) {pc : Nat} {ls : Array Slot} {st : List Value} {x : Int32} {o : Int} (hd : decode bs pc = .ok (.ifCond .ne o, 3)) (pcT pcN : Nat) (hyes : ¬ x = (0 : Int32) → Goes p.tables e below G (T.setTop (mkF m pcT ls st))) (hno : x = (0 : Int32) → Goes p.tables e below G (T.setTop (mkF m pcN ls st))) (ho : 0 ≤ (pc : Int) + o := by decide) (hp : ((pc : Int) + o).toNat = pcT := by decide) (hq : pc + 3 = pcN := by rfl) : Goes p.tables e below G (T.setTop (mkF m pc ls (.int x :: st))) := by
  subst hq
  by_cases q : x = (0 : Int32)
  · exact Goes.on (fun _ k => XS.ifNo X.here C.1 rfl (hb C.2.2.1 hd) rfl ((if0 _ _).trans (teq q).2) k) (hno q)
  · exact Goes.on (fun _ k => XS.ifYes X.here C.1 rfl (pc0 := pc) (pc' := pcT) rfl (hb C.2.2.1 hd) rfl ((if0 _ _).trans (feq q).2) ho hp k) (hyes q)
theorem g_icmp_lt (C : Ctx p Z s m meth c bs own maxL ret) (X : Stand p l e R s m args below meth c T locs cells slots) {pc : Nat} {ls : Array Slot} {st : List Value} {x y : Int32} {o : Int} (hd : decode bs pc = .ok (.if_icmp .lt o, 3)) (pcT pcN : Nat) (hyes : x < y → Goes p.tables e below G (T.setTop (mkF m pcT ls st))) (hno : ¬ x < y → Goes p.tables e below G (T.setTop (mkF m pcN ls st))) (ho : 0 ≤ (pc : Int) + o := by decide) (hp : ((pc : Int) + o).toNat = pcT := by decide) (hq : pc + 3 = pcN := by rfl) : Goes p.tables e below G (T.setTop (mkF m pc ls (.int y :: .int x :: st))) := by
  subst hq
  by_cases q : x < y
  · exact Goes.on (fun _ k => XS.icmpYes X.here C.1 rfl (pc0 := pc) (pc' := pcT) rfl (hb C.2.2.1 hd) rfl (tlt q).1 ho hp k) (hyes q)
  · exact Goes.on (fun _ k => XS.icmpNo X.here C.1 rfl (hb C.2.2.1 hd) rfl (flt q).1 k) (hno q)
theorem g_if_lt (C : Ctx p Z s m meth c bs own maxL ret) (X : Stand p l e R s m args below meth c T locs cells slots) {pc : Nat} {ls : Array Slot} {st : List Value} {x : Int32} {o : Int} (hd : decode bs pc = .ok (.ifCond .lt o, 3)) (pcT pcN : Nat) (hyes : x < (0 : Int32) → Goes p.tables e below G (T.setTop (mkF m pcT ls st))) (hno : ¬ x < (0 : Int32) → Goes p.tables e below G (T.setTop (mkF m pcN ls st))) (ho : 0 ≤ (pc : Int) + o := by decide) (hp : ((pc : Int) + o).toNat = pcT := by decide) (hq : pc + 3 = pcN := by rfl) : Goes p.tables e below G (T.setTop (mkF m pc ls (.int x :: st))) := by
  subst hq
  by_cases q : x < (0 : Int32)
  · exact Goes.on (fun _ k => XS.ifYes X.here C.1 rfl (pc0 := pc) (pc' := pcT) rfl (hb C.2.2.1 hd) rfl ((if0 _ _).trans (tlt q).1) ho hp k) (hyes q)
  · exact Goes.on (fun _ k => XS.ifNo X.here C.1 rfl (hb C.2.2.1 hd) rfl ((if0 _ _).trans (flt q).1) k) (hno q)
theorem g_lcmp_lt (C : Ctx p Z s m meth c bs own maxL ret) (X : Stand p l e R s m args below meth c T locs cells slots) {pc : Nat} {ls : Array Slot} {st : List Value} {x y : Int64} {o : Int} (hd : decode bs pc = .ok (.lcmp, 1)) (pc1 : Nat) (hd1 : decode bs pc1 = .ok (.ifCond .lt o, 3)) (pcT pcN : Nat) (hyes : x < y → Goes p.tables e below G (T.setTop (mkF m pcT ls st))) (hno : ¬ x < y → Goes p.tables e below G (T.setTop (mkF m pcN ls st))) (h1 : pc + 1 = pc1 := by rfl) (ho : 0 ≤ (pc1 : Int) + o := by decide) (hp : ((pc1 : Int) + o).toNat = pcT := by decide) (hq : pc1 + 3 = pcN := by rfl) : Goes p.tables e below G (T.setTop (mkF m pc ls (.long y :: .long x :: st))) := by
  subst h1
  exact Goes.on (fun _ k => XT.lcmp X.here C.1 rfl (hb C.2.2.1 hd) rfl k) (g_if_lt C X hd1 pcT pcN (fun q => hyes ((cmpL_lt x y).mp q)) (fun q => hno ((not_congr (cmpL_lt x y)).mp q)) ho hp hq)
theorem g_icmp_ge (C : Ctx p Z s m meth c bs own maxL ret) (X : Stand p l e R s m args below meth c T locs cells slots) {pc : Nat} {ls : Array Slot} {st : List Value} {x y : Int32} {o : Int} (hd : decode bs pc = .ok (.if_icmp .ge o, 3)) (pcT pcN : Nat) (hyes : ¬ x < y → Goes p.tables e below G (T.setTop (mkF m pcT ls st))) (hno : x < y → Goes p.tables e below G (T.setTop (mkF m pcN ls st))) (ho : 0 ≤ (pc : Int) + o := by decide) (hp : ((pc : Int) + o).toNat = pcT := by decide) (hq : pc + 3 = pcN := by rfl) : Goes p.tables e below G (T.setTop (mkF m pc ls (.int y :: .int x :: st))) := by
  subst hq
  by_cases q : x < y
  · exact Goes.on (fun _ k => XS.icmpNo X.here C.1 rfl (hb C.2.2.1 hd) rfl (tlt q).2.1 k) (hno q)
  · exact Goes.on (fun _ k => XS.icmpYes X.here C.1 rfl (pc0 := pc) (pc' := pcT) rfl (hb C.2.2.1 hd) rfl (flt q).2.1 ho hp k) (hyes q)
theorem g_if_ge (C : Ctx p Z s m meth c bs own maxL ret) (X : Stand p l e R s m args below meth c T locs cells slots) {pc : Nat} {ls : Array Slot} {st : List Value} {x : Int32} {o : Int} (hd : decode bs pc = .ok (.ifCond .ge o, 3)) (pcT pcN : Nat) (hyes : ¬ x < (0 : Int32) → Goes p.tables e below G (T.setTop (mkF m pcT ls st))) (hno : x < (0 : Int32) → Goes p.tables e below G (T.setTop (mkF m pcN ls st))) (ho : 0 ≤ (pc : Int) + o := by decide) (hp : ((pc : Int) + o).toNat = pcT := by decide) (hq : pc + 3 = pcN := by rfl) : Goes p.tables e below G (T.setTop (mkF m pc ls (.int x :: st))) := by
  subst hq
  by_cases q : x < (0 : Int32)
  · exact Goes.on (fun _ k => XS.ifNo X.here C.1 rfl (hb C.2.2.1 hd) rfl ((if0 _ _).trans (tlt q).2.1) k) (hno q)
  · exact Goes.on (fun _ k => XS.ifYes X.here C.1 rfl (pc0 := pc) (pc' := pcT) rfl (hb C.2.2.1 hd) rfl ((if0 _ _).trans (flt q).2.1) ho hp k) (hyes q)
theorem g_lcmp_ge (C : Ctx p Z s m meth c bs own maxL ret) (X : Stand p l e R s m args below meth c T locs cells slots) {pc : Nat} {ls : Array Slot} {st : List Value} {x y : Int64} {o : Int} (hd : decode bs pc = .ok (.lcmp, 1)) (pc1 : Nat) (hd1 : decode bs pc1 = .ok (.ifCond .ge o, 3)) (pcT pcN : Nat) (hyes : ¬ x < y → Goes p.tables e below G (T.setTop (mkF m pcT ls st))) (hno : x < y → Goes p.tables e below G (T.setTop (mkF m pcN ls st))) (h1 : pc + 1 = pc1 := by rfl) (ho : 0 ≤ (pc1 : Int) + o := by decide) (hp : ((pc1 : Int) + o).toNat = pcT := by decide) (hq : pc1 + 3 = pcN := by rfl) : Goes p.tables e below G (T.setTop (mkF m pc ls (.long y :: .long x :: st))) := by
  subst h1
  exact Goes.on (fun _ k => XT.lcmp X.here C.1 rfl (hb C.2.2.1 hd) rfl k) (g_if_ge C X hd1 pcT pcN (fun q => hyes ((not_congr (cmpL_lt x y)).mp q)) (fun q => hno ((cmpL_lt x y).mp q)) ho hp hq)
theorem g_icmp_gt (C : Ctx p Z s m meth c bs own maxL ret) (X : Stand p l e R s m args below meth c T locs cells slots) {pc : Nat} {ls : Array Slot} {st : List Value} {x y : Int32} {o : Int} (hd : decode bs pc = .ok (.if_icmp .gt o, 3)) (pcT pcN : Nat) (hyes : y < x → Goes p.tables e below G (T.setTop (mkF m pcT ls st))) (hno : ¬ y < x → Goes p.tables e below G (T.setTop (mkF m pcN ls st))) (ho : 0 ≤ (pc : Int) + o := by decide) (hp : ((pc : Int) + o).toNat = pcT := by decide) (hq : pc + 3 = pcN := by rfl) : Goes p.tables e below G (T.setTop (mkF m pc ls (.int y :: .int x :: st))) := by
  subst hq
  by_cases q : y < x
  · exact Goes.on (fun _ k => XS.icmpYes X.here C.1 rfl (pc0 := pc) (pc' := pcT) rfl (hb C.2.2.1 hd) rfl (tlt q).2.2.1 ho hp k) (hyes q)
  · exact Goes.on (fun _ k => XS.icmpNo X.here C.1 rfl (hb C.2.2.1 hd) rfl (flt q).2.2.1 k) (hno q)
theorem g_icmp_le (C : Ctx p Z s m meth c bs own maxL ret) (X : Stand p l e R s m args below meth c T locs cells slots) {pc : Nat} {ls : Array Slot} {st : List Value} {x y : Int32} {o : Int} (hd : decode bs pc = .ok (.if_icmp .le o, 3)) (pcT pcN : Nat) (hyes : ¬ y < x → Goes p.tables e below G (T.setTop (mkF m pcT ls st))) (hno : y < x → Goes p.tables e below G (T.setTop (mkF m pcN ls st))) (ho : 0 ≤ (pc : Int) + o := by decide) (hp : ((pc : Int) + o).toNat = pcT := by decide) (hq : pc + 3 = pcN := by rfl) : Goes p.tables e below G (T.setTop (mkF m pc ls (.int y :: .int x :: st))) := by
  subst hq
  by_cases q : y < x
  · exact Goes.on (fun _ k => XS.icmpNo X.here C.1 rfl (hb C.2.2.1 hd) rfl (tlt q).2.2.2 k) (hno q)
  · exact Goes.on (fun _ k => XS.icmpYes X.here C.1 rfl (pc0 := pc) (pc' := pcT) rfl (hb C.2.2.1 hd) rfl (flt q).2.2.2 ho hp k) (hyes q)
theorem g_if_le (C : Ctx p Z s m meth c bs own maxL ret) (X : Stand p l e R s m args below meth c T locs cells slots) {pc : Nat} {ls : Array Slot} {st : List Value} {x : Int32} {o : Int} (hd : decode bs pc = .ok (.ifCond .le o, 3)) (pcT pcN : Nat) (hyes : ¬ (0 : Int32) < x → Goes p.tables e below G (T.setTop (mkF m pcT ls st))) (hno : (0 : Int32) < x → Goes p.tables e below G (T.setTop (mkF m pcN ls st))) (ho : 0 ≤ (pc : Int) + o := by decide) (hp : ((pc : Int) + o).toNat = pcT := by decide) (hq : pc + 3 = pcN := by rfl) : Goes p.tables e below G (T.setTop (mkF m pc ls (.int x :: st))) := by
  subst hq
  by_cases q : (0 : Int32) < x
  · exact Goes.on (fun _ k => XS.ifNo X.here C.1 rfl (hb C.2.2.1 hd) rfl ((if0 _ _).trans (tlt q).2.2.2) k) (hno q)
  · exact Goes.on (fun _ k => XS.ifYes X.here C.1 rfl (pc0 := pc) (pc' := pcT) rfl (hb C.2.2.1 hd) rfl ((if0 _ _).trans (flt q).2.2.2) ho hp k) (hyes q)
theorem g_ldc (C : Ctx p Z s m meth c bs own maxL ret) (X : Stand p l e R s m args below meth c T locs cells slots) {pc : Nat} {ls : Array Slot} {st : List Value} {i : Nat} {v : Int32} (w : (Cond.constant own i v).before a0 Z = true) (hd : decode bs pc = .ok (.ldc i, 2)) (pc' : Nat) (k : Goes p.tables e below G (T.setTop (mkF m pc' ls (.int v :: st)))) (hp : pc + 2 = pc' := by rfl) : Goes p.tables e below G (T.setTop (mkF m pc ls st)) := by
  subst hp
  exact Goes.on (fun _ k => X.ldcInt C.1 C.2.2.2.2.1 (mvT C.2.1 w) (g := mkF m pc ls st) rfl (hb C.2.2.1 hd) _ k) k
theorem g_ldc2 (C : Ctx p Z s m meth c bs own maxL ret) (X : Stand p l e R s m args below meth c T locs cells slots) {pc : Nat} {ls : Array Slot} {st : List Value} {i : Nat} {v : Int64} (w : (Cond.constantLong own i v).before a0 Z = true) (hd : decode bs pc = .ok (.ldc2_w i, 3)) (pc' : Nat) (k : Goes p.tables e below G (T.setTop (mkF m pc' ls (.long v :: st)))) (hp : pc + 3 = pc' := by rfl) : Goes p.tables e below G (T.setTop (mkF m pc ls st)) := by
  subst hp
  exact Goes.on (fun _ k => X.ldc2Long C.1 C.2.2.2.2.1 (mvT C.2.1 w) (g := mkF m pc ls st) rfl (hb C.2.2.1 hd) _ k) k
theorem g_retN {t : FieldType} (C : Ctx p Z s m meth c bs own maxL (some t)) (X : Stand p l e R s m args below meth c T locs cells slots) {Q : Option Value → Heap → List Loc → Prop} (K : ∀ (v : Option Value) (L : List Loc) (T' : State), Q v T'.heap L → s.WarmedH T'.vm → s.sameButNew ({ T' with vm := s.vm } : State) L R.cells R.slots → G (.returned v) T') {pc : Nat} {ls : Array Slot} {rest : List Value} {z : Int32} (ht : t = .boolean ∨ t = .byte ∨ t = .char ∨ t = .short) (hd : decode bs pc = .ok (.ireturn, 1)) (hc : cells ≤ R.cells) (hs : slots ≤ R.slots) (eT : T.heap = h) (hQ : Q (some (.int (nar t z))) h locs) : Goes p.tables e below G (T.setTop (mkF m pc ls (.int z :: rest))) := by
  have hlk : meth.locks = false := C.2.2.2.2.2.2
  obtain ⟨fs, hr, hrun, hended, hW, hsame⟩ := X.leave (v := some (.int (nar t z))) (fun q => by rw [C.2.2.2.2.2.1] at q; cases q) hlk
  refine ⟨_, _, ?_, hrun, hended, K _ locs _ (by show Q _ T.heap locs; rw [eT]; exact hQ) hW (hsame.mono hc hs)⟩
  exact retN X C.1 C.2.2.2.2.2.1 ht (hb C.2.2.1 hd) hr
theorem g_retI (C : Ctx p Z s m meth c bs own maxL (some .int)) (X : Stand p l e R s m args below meth c T locs cells slots) {Q : Option Value → Heap → List Loc → Prop} (K : ∀ (v : Option Value) (L : List Loc) (T' : State), Q v T'.heap L → s.WarmedH T'.vm → s.sameButNew ({ T' with vm := s.vm } : State) L R.cells R.slots → G (.returned v) T') {pc : Nat} {ls : Array Slot} {rest : List Value} {z : Int32} (hd : decode bs pc = .ok (.ireturn, 1)) (hc : cells ≤ R.cells) (hs : slots ≤ R.slots) (eT : T.heap = h) (hQ : Q (some (.int z)) h locs) : Goes p.tables e below G (T.setTop (mkF m pc ls (.int z :: rest))) := by
  have hlk : meth.locks = false := C.2.2.2.2.2.2
  obtain ⟨fs, hr, hrun, hended, hW, hsame⟩ := X.leave (v := some (.int z)) (fun q => by rw [C.2.2.2.2.2.1] at q; cases q) hlk
  refine ⟨_, _, ?_, hrun, hended, K _ locs _ (by show Q _ T.heap locs; rw [eT]; exact hQ) hW (hsame.mono hc hs)⟩
  exact retOut X C.1 (w := .int z) (i := .ireturn) C.2.2.2.2.2.1 rfl (Or.inl ⟨rfl, Or.inl rfl, z, rfl⟩) (hb C.2.2.1 hd) hr
theorem g_retA {t : FieldType} (C : Ctx p Z s m meth c bs own maxL (some t)) (X : Stand p l e R s m args below meth c T locs cells slots) {Q : Option Value → Heap → List Loc → Prop} (K : ∀ (v : Option Value) (L : List Loc) (T' : State), Q v T'.heap L → s.WarmedH T'.vm → s.sameButNew ({ T' with vm := s.vm } : State) L R.cells R.slots → G (.returned v) T') {pc : Nat} {ls : Array Slot} {rest : List Value} {w : Value} (ht : t.isReference = true) (hn : narrow t w = w) (hw : w.isRef = true) (hd : decode bs pc = .ok (.areturn, 1)) (hc : cells ≤ R.cells) (hs : slots ≤ R.slots) (eT : T.heap = h) (hQ : Q (some w) h locs) : Goes p.tables e below G (T.setTop (mkF m pc ls (w :: rest))) := by
  have hlk : meth.locks = false := C.2.2.2.2.2.2
  obtain ⟨fs, hr, hrun, hended, hW, hsame⟩ := X.leave (v := some w) (fun q => by rw [C.2.2.2.2.2.1] at q; cases q) hlk
  refine ⟨_, _, ?_, hrun, hended, K _ locs _ (by show Q _ T.heap locs; rw [eT]; exact hQ) hW (hsame.mono hc hs)⟩
  exact retOut X C.1 (w := w) (i := .areturn) C.2.2.2.2.2.1 hn (Or.inr (Or.inr (Or.inr (Or.inr ⟨rfl, ht, hw⟩)))) (hb C.2.2.1 hd) hr
theorem g_retV (C : Ctx p Z s m meth c bs own maxL (none)) (X : Stand p l e R s m args below meth c T locs cells slots) {Q : Option Value → Heap → List Loc → Prop} (K : ∀ (v : Option Value) (L : List Loc) (T' : State), Q v T'.heap L → s.WarmedH T'.vm → s.sameButNew ({ T' with vm := s.vm } : State) L R.cells R.slots → G (.returned v) T') {pc : Nat} {ls : Array Slot}  (hd : decode bs pc = .ok (.return_, 1)) (hc : cells ≤ R.cells) (hs : slots ≤ R.slots) (eT : T.heap = h) (hQ : Q (none) h locs) : Goes p.tables e below G (T.setTop (mkF m pc ls [])) := by
  have hlk : meth.locks = false := C.2.2.2.2.2.2
  obtain ⟨fs, hr, hrun, hended, hW, hsame⟩ := X.leave (v := none) (fun _ => rfl) hlk
  refine ⟨_, _, ?_, hrun, hended, K _ locs _ (by show Q _ T.heap locs; rw [eT]; exact hQ) hW (hsame.mono hc hs)⟩
  exact X.returnOut C.1 C.2.2.2.2.2.1 (hb C.2.2.1 hd) hr
theorem g_getF (C : Ctx p Z s m meth c bs own maxL ret) (X : Stand p l e R s m args below meth c T locs cells slots) {pc : Nat} {ls : Array Slot} {st : List Value} {R0 O n d : String} {index : Nat} {a : Addr} {v : Value} (w : (Cond.fieldLink own index R0 n d).before a0 Z = true) (via : Via Z R0 O n d) (eT : T.heap = h) (F : Fld Z h a O n d v) (hd : decode bs pc = .ok (.getfield index, 3)) (pc' : Nat) (k : ∀ T' : State, Stand p l e R s m args below meth c T' locs cells slots → T'.heap = h → Goes p.tables e below G (T'.setTop (mkF m pc' ls (v :: st)))) (hp : pc + 3 = pc' := by rfl) : Goes p.tables e below G (T.setTop (mkF m pc ls (.ref a :: st))) := by
  subst hp
  obtain ⟨T', X', e', st'⟩ := getF X C.1 C.2.1 C.2.2.2.2.1 (host := "") (Or.inl w) via eT F (g := mkF m pc ls (.ref a :: st)) rfl rfl (hb C.2.2.1 hd)
  exact Goes.on (fun t k => st' t k) (k T' X' e')
theorem g_getS (C : Ctx p Z s m meth c bs own maxL ret) (X : Stand p l e R s m args below meth c T locs cells slots) {pc : Nat} {ls : Array Slot} {st : List Value} {R0 O n d : String} {index : Nat} {v : Value} (w : (Cond.fieldLink own index R0 n d).before a0 Z = true) (via : Via Z R0 O n d) (eT : T.heap = h) (F : Sta Z h O n d v) (hd : decode bs pc = .ok (.getstatic index, 3)) (pc' : Nat) (k : ∀ T' : State, Stand p l e R s m args below meth c T' locs cells slots → T'.heap = h → Goes p.tables e below G (T'.setTop (mkF m pc' ls (v :: st)))) (hp : pc + 3 = pc' := by rfl) : Goes p.tables e below G (T.setTop (mkF m pc ls st)) := by
  subst hp
  obtain ⟨T', X', e', st'⟩ := getS2 X C.1 C.2.1 C.2.2.2.2.1 (host := "") (Or.inl w) via eT F (g := mkF m pc ls st) rfl (hb C.2.2.1 hd)
  exact Goes.on (fun t k => st' t k) (k T' X' e')
theorem g_putF (C : Ctx p Z s m meth c bs own maxL ret) (X : Stand p l e R s m args below meth c T locs cells slots) {pc : Nat} {ls : Array Slot} {st : List Value} {R0 O n d K : String} {index kk : Nat} {ty : FieldType} {a : Addr} {v old : Value} (w : (Cond.fieldLink own index R0 n d).before a0 Z = true) (via : Via Z R0 O n d) (eT : T.heap = h) (F : Fld Z h a O n d old) (E : Exa Z h a K) (L : (Cond.lays K O n d).before a0 Z = true ∨ ((Cond.laysFinal K O n d).before a0 Z = true ∧ own = O ∧ meth.name = "<init>")) (wi : (Cond.instantiable K kk).before a0 Z = true) (hty : parseFieldDescriptor d = some ty) (hn : narrow ty v = v) (hf : fits ty v = true) (hd : decode bs pc = .ok (.putfield index, 3)) (pc' : Nat) (k : ∀ (T' : State) (h' : Heap), Stand p l e R s m args below meth c T' (locs ++ [⟨a, Jvm.RoadKit.slotOf Z O n d⟩]) cells slots → T'.heap = h' → Wr h h' a (Jvm.RoadKit.slotOf Z O n d) v → Goes p.tables e below G (T'.setTop (mkF m pc' ls st))) (hp : pc + 3 = pc' := by rfl) : Goes p.tables e below G (T.setTop (mkF m pc ls (v :: .ref a :: st))) := by
  subst hp
  obtain ⟨T', h', X', e', W', st'⟩ := putF X C.1 C.2.1 C.2.2.2.2.1 (host := "") (Or.inl w) via eT F E L wi hty hn hf (g := mkF m pc ls (v :: .ref a :: st)) rfl rfl (hb C.2.2.1 hd)
  exact Goes.on (fun t k => st' t k) (k T' h' X' e' W')
theorem g_putFN (C : Ctx p Z s m meth c bs own maxL ret) (X : Stand p l e R s m args below meth c T locs cells slots) {pc : Nat} {ls : Array Slot} {st : List Value} {R0 O n d K : String} {index kk : Nat} {ty : FieldType} {a : Addr} {v old v' : Value} (w : (Cond.fieldLink own index R0 n d).before a0 Z = true) (via : Via Z R0 O n d) (eT : T.heap = h) (F : Fld Z h a O n d old) (E : Exa Z h a K) (L : (Cond.lays K O n d).before a0 Z = true ∨ ((Cond.laysFinal K O n d).before a0 Z = true ∧ own = O ∧ meth.name = "<init>")) (wi : (Cond.instantiable K kk).before a0 Z = true) (hty : parseFieldDescriptor d = some ty) (hn : narrow ty v = v') (hf : fits ty v' = true) (hd : decode bs pc = .ok (.putfield index, 3)) (pc' : Nat) (k : ∀ (T' : State) (h' : Heap), Stand p l e R s m args below meth c T' (locs ++ [⟨a, Jvm.RoadKit.slotOf Z O n d⟩]) cells slots → T'.heap = h' → Wr h h' a (Jvm.RoadKit.slotOf Z O n d) v' → Goes p.tables e below G (T'.setTop (mkF m pc' ls st))) (hp : pc + 3 = pc' := by rfl) : Goes p.tables e below G (T.setTop (mkF m pc ls (v :: .ref a :: st))) := by
  subst hp
  obtain ⟨T', h', X', e', W', st'⟩ := putFN X C.1 C.2.1 C.2.2.2.2.1 w via eT F E L wi hty hn hf (g := mkF m pc ls (v :: .ref a :: st)) rfl rfl (hb C.2.2.1 hd)
  exact Goes.on (fun t k => st' t k) (k T' h' X' e' W')
theorem g_new (C : Ctx p Z s m meth c bs own maxL ret) (X : Stand p l e R s m args below meth c T locs cells slots) {pc : Nat} {ls : Array Slot} {st : List Value} {K : String} {index n : Nat} (w : (Cond.classLink own index K).before a0 Z = true) (wi : (Cond.instantiable K n).before a0 Z = true) (wz : (Cond.initialized K).before a0 Z = true) (eT : T.heap = h) (hd : decode bs pc = .ok (.new index, 3)) (pc' : Nat) (hc : cells + 1 ≤ R.cells) (hs : slots + n ≤ R.slots) (k : ∀ (T' : State) (h' : Heap) (b : Addr), Stand p l e R s m args below meth c T' locs (cells + 1) (slots + n) → T'.heap = h' → b = h.size → Ext h h' → Exa Z h' b K → (∀ {O nm d : String} {ty : FieldType}, Laid Z a0 K O nm d → parseFieldDescriptor d = some ty → Fld Z h' b O nm d (defaultValue ty)) → Goes p.tables e below G (T'.setTop (mkF m pc' ls (.ref b :: st)))) (hp : pc + 3 = pc' := by rfl) : Goes p.tables e below G (T.setTop (mkF m pc ls st)) := by
  subst hp
  obtain ⟨T', h', X', e', E', A', D', -, st'⟩ := newO X C.1 C.2.1 C.2.2.2.2.1 w wi wz eT (g := mkF m pc ls st) rfl (hb C.2.2.1 hd) hc hs
  exact Goes.on (fun t k => st' t k) (k T' h' h.size X' e' rfl E' A' D')
theorem g_initO (C : Ctx p Z s m meth c bs own maxL ret) (X : Stand p l e R s m args below meth c T locs cells slots) {pc : Nat} {ls : Array Slot} {st : List Value} {idx : Nat} {a : Addr} (w1 : (Cond.methodLink own idx Lib.objectInit).before a0 Z = true) (w2 : (Cond.instanceMethod Lib.objectInit).before a0 Z = true) (w3 : (Cond.code Lib.objectInit ⟨#[0xb1]⟩ 1 none).before a0 Z = true) (eT : T.heap = h) (hls : ls.size = maxL) (hd : decode bs pc = .ok (.invokespecial idx, 3)) (pc' : Nat) (hf : 1 ≤ R.frames) {W : Nat} (hW : (st.map fun v => v.category).sum ≤ W) (hl : W + 12 ≤ R.locals) (k : ∀ T' : State, Stand p l e R s m args below meth c T' locs cells slots → T'.heap = h → Goes p.tables e below G (T'.setTop (mkF m pc' ls st))) (hp : pc + 3 = pc' := by rfl) : Goes p.tables e below G (T.setTop (mkF m pc ls (.ref a :: st))) := by
  subst hp
  obtain ⟨T', X', e', st'⟩ := initO X C.1 C.2.1 C.2.2.2.2.1 w1 w2 w3 eT (g := mkF m pc ls (.ref a :: st)) rfl (by rw [C.2.2.2.1]; exact hls) rfl (hb C.2.2.1 hd) hf (W := W) (by show 2 * 0 + _ ≤ _; omega) hl
  exact Goes.on (fun t k => st' t k) (k T' X' e')
theorem g_callS (C : Ctx p Z s m meth c bs own maxL ret) (X : Stand p l e R s m args below meth c T locs cells slots) {pc : Nat} {ls : Array Slot} {y : MethodName} {index : Nat} {bytes : ByteArray} {maxY : Nat} {retY : Option FieldType} {rm : Room} {Q : Option Value → Heap → List Loc → Prop} {ps : List FieldType} {rr : Option FieldType} {stk : List Value} (w1 : (Cond.methodLink own index y).before a0 Z = true) (w2 : (Cond.static y).before a0 Z = true) (w3 : (Cond.initialized y.cls).before a0 Z = true) (w4 : (Cond.code y bytes maxY retY).before a0 Z = true) (hd : decode bs pc = .ok (.invokestatic index, 3)) (argsL rest : List Value) (W : Nat) (hM : MetFree l y (head1 [Cond.code y bytes maxY retY] rm) (fun a' U => a' = argsL.toArray ∧ Z.Warmed39 U.vm ∧ U.heap = h) (fun _ _ _ _ _ => True) (fun _ U o U' => ∃ v L, o = .returned v ∧ Q v U'.heap L ∧ FrameEnd U o U' L rm.cells rm.slots)) (hpd : parseMethodDescriptor y.desc = some ⟨ps, rr⟩) (eT : T.heap = h) (pc' : Nat) (k : ∀ (v : Option Value) (T' : State) (L : List Loc), Stand p l e R s m args below meth c T' (locs ++ L) (cells + rm.cells) (slots + rm.slots) → Q v T'.heap L → Goes p.tables e below G (T'.setTop (mkF m pc' ls (v.toList ++ rest)))) (hy : y.cls ≠ "java/lang/invoke/MethodHandle" ∧ y.cls ≠ "java/lang/invoke/VarHandle" := by decide) (hf : rm.frames + 1 ≤ R.frames := by decide) (hl : W + (maxY + 11) + rm.locals ≤ R.locals := by decide) (hls : ls.size = maxL := by rfl) (hlen : argsL.length = ps.length := by rfl) (hst : stk = argsL.reverse ++ rest := by rfl) (hW : (rest.map fun v => v.category).sum ≤ W := by exact Nat.le_of_eq rfl) (hc : cells + rm.cells ≤ R.cells := by decide) (hs : slots + rm.slots ≤ R.slots := by decide) (hp : pc + 3 = pc' := by rfl) : Goes p.tables e below G (T.setTop (mkF m pc ls stk)) := by
  subst hp hst
  obtain ⟨v, _, ⟨T', L', k', n'⟩, -, X', ⟨L, hQ, l1, l2, l3⟩, st'⟩ := Jvm.LawKit.callS X C.1 (y := y) C.2.2.2.2.1 (mvT C.2.1 w1) (mvT C.2.1 w2) (mvT C.2.1 w3) (mvT C.2.1 w4) hy (backOf (W := W) hM C.2.1 w4 w3 hf hl) (g := mkF m pc ls (argsL.reverse ++ rest)) rfl (by rw [C.2.2.2.1]; exact hls) (argsL := argsL) (rest := rest) (lenOf hpd hlen) rfl (by show 2 * 0 + _ ≤ _; omega) (hb C.2.2.1 hd) (fun _ _ => ⟨rfl, eT, hc, hs⟩)
  dsimp only [Pt.U, Pt.locs, Pt.cells, Pt.slots] at X' l1 l2 l3 st' hQ
  subst l1 l2 l3
  exact Goes.on (fun t k => st' t k) (k v T' L X' hQ)
theorem g_callI (C : Ctx p Z s m meth c bs own maxL ret) (X : Stand p l e R s m args below meth c T locs cells slots) {pc : Nat} {ls : Array Slot} {a : Addr} {y : MethodName} {index : Nat} {bytes : ByteArray} {maxY : Nat} {rm : Room} {Q : Option Value → Heap → List Loc → Prop} {ps : List FieldType} {rr : Option FieldType} {stk : List Value} (hn : y.name = "<init>") (w1 : (Cond.methodLink own index y).before a0 Z = true) (w2 : (Cond.instanceMethod y).before a0 Z = true) (w3 : (Cond.initialized y.cls).before a0 Z = true) (w4 : (Cond.code y bytes maxY none).before a0 Z = true) (hd : decode bs pc = .ok (.invokespecial index, 3)) (argsL rest : List Value) (W : Nat) (hM : MetFree l y (head1 [Cond.code y bytes maxY none] rm) (fun a' U => a' = (.ref a :: argsL).toArray ∧ Z.Warmed39 U.vm ∧ U.heap = h) (fun _ _ _ _ _ => True) (fun _ U o U' => ∃ v L, o = .returned v ∧ Q v U'.heap L ∧ FrameEnd U o U' L rm.cells rm.slots)) (hpd : parseMethodDescriptor y.desc = some ⟨ps, rr⟩) (eT : T.heap = h) (pc' : Nat) (k : ∀ (v : Option Value) (T' : State) (L : List Loc), Stand p l e R s m args below meth c T' (locs ++ L) (cells + rm.cells) (slots + rm.slots) → Q v T'.heap L → Goes p.tables e below G (T'.setTop (mkF m pc' ls (v.toList ++ rest)))) (hy : y.cls ≠ "java/lang/invoke/MethodHandle" ∧ y.cls ≠ "java/lang/invoke/VarHandle" := by decide) (hf : rm.frames + 1 ≤ R.frames := by decide) (hl : W + (maxY + 11) + rm.locals ≤ R.locals := by decide) (hls : ls.size = maxL := by rfl) (hlen : argsL.length = ps.length := by rfl) (hst : stk = argsL.reverse ++ .ref a :: rest := by rfl) (hW : (rest.map fun v => v.category).sum ≤ W := by exact Nat.le_of_eq rfl) (hc : cells + rm.cells ≤ R.cells := by decide) (hs : slots + rm.slots ≤ R.slots := by decide) (hp : pc + 3 = pc' := by rfl) : Goes p.tables e below G (T.setTop (mkF m pc ls stk)) := by
  subst hp hst
  obtain ⟨v, _, ⟨T', L', k', n'⟩, -, X', ⟨L, hQ, l1, l2, l3⟩, st'⟩ := X.specialBack C.1 (y := y) hn C.2.2.2.2.1 (mvT C.2.1 w1) (mvT C.2.1 w2) (mvT C.2.1 w4) hy (backOf (W := W) hM C.2.1 w4 w3 hf hl) (g := mkF m pc ls (argsL.reverse ++ .ref a :: rest)) rfl (by rw [C.2.2.2.1]; exact hls) (Steps.refl _) (a := a) (argsL := argsL) (rest := rest) (lenOf hpd hlen) rfl (by show 2 * 0 + _ ≤ _; omega) (hb C.2.2.1 hd) (fun _ _ => ⟨rfl, eT, hc, hs⟩)
  dsimp only [Pt.U, Pt.locs, Pt.cells, Pt.slots] at X' l1 l2 l3 st' hQ
  subst l1 l2 l3
  exact Goes.on (fun t k => st'.trans k) (k v T' L X' hQ)
theorem g_callV (C : Ctx p Z s m meth c bs own maxL ret) (X : Stand p l e R s m args below meth c T locs cells slots) {pc : Nat} {ls : Array Slot} {a : Addr} {K : String} {y z : MethodName} {index : Nat} {bytes : ByteArray} {maxY : Nat} {retY : Option FieldType} {rm : Room} {Q : Option Value → Heap → List Loc → Prop} {ps : List FieldType} {rr : Option FieldType} {stk : List Value} (w1 : (Cond.methodLink own index y).before a0 Z = true) (w2 : (Cond.declares y).before a0 Z = true) (hnf : NotFace s y) (w3 : (Cond.selects K y z).before a0 Z = true) (w4 : (Cond.instanceMethod z).before a0 Z = true) (w5 : (Cond.code z bytes maxY retY).before a0 Z = true) (w6 : (Cond.initialized z.cls).before a0 Z = true) (E : Exa Z h a K) (hd : decode bs pc = .ok (.invokevirtual index, 3)) (argsL rest : List Value) (W : Nat) (hM : MetFree l z (head1 [Cond.code z bytes maxY retY] rm) (fun a' U => a' = (.ref a :: argsL).toArray ∧ Z.Warmed39 U.vm ∧ U.heap = h) (fun _ _ _ _ _ => True) (fun _ U o U' => ∃ v L, o = .returned v ∧ Q v U'.heap L ∧ FrameEnd U o U' L rm.cells rm.slots)) (hpd : parseMethodDescriptor y.desc = some ⟨ps, rr⟩) (eT : T.heap = h) (pc' : Nat) (k : ∀ (v : Option Value) (T' : State) (L : List Loc), Stand p l e R s m args below meth c T' (locs ++ L) (cells + rm.cells) (slots + rm.slots) → Q v T'.heap L → Goes p.tables e below G (T'.setTop (mkF m pc' ls (v.toList ++ rest)))) (hy : y.cls ≠ "java/lang/invoke/MethodHandle" ∧ y.cls ≠ "java/lang/invoke/VarHandle" := by decide) (hf : rm.frames + 1 ≤ R.frames := by decide) (hl : W + (maxY + 11) + rm.locals ≤ R.locals := by decide) (hls : ls.size = maxL := by rfl) (hlen : argsL.length = ps.length := by rfl) (hst : stk = argsL.reverse ++ .ref a :: rest := by rfl) (hW : (rest.map fun v => v.category).sum ≤ W := by exact Nat.le_of_eq rfl) (hc : cells + rm.cells ≤ R.cells := by decide) (hs : slots + rm.slots ≤ R.slots := by decide) (hp : pc + 3 = pc' := by rfl) : Goes p.tables e below G (T.setTop (mkF m pc ls stk)) := by
  subst hp hst
  obtain ⟨cq, kq, qa, qb, qc⟩ := isOf C.2.1 eT E
  obtain ⟨v, _, ⟨T', L', k', n'⟩, -, X', ⟨L, hQ, l1, l2, l3⟩, st'⟩ := X.virtualBack C.1 (y := y) (z := z) C.2.2.2.2.1 (mvT C.2.1 w1) (mvT C.2.1 w2) hnf (mvT C.2.1 w3) (mvT C.2.1 w4) hy (backOf (W := W) hM C.2.1 w5 w6 hf hl) qa qc (g := mkF m pc ls (argsL.reverse ++ .ref a :: rest)) rfl (by rw [C.2.2.2.1]; exact hls) (Steps.refl _) (argsL := argsL) (rest := rest) (lenOf hpd hlen) rfl (by show 2 * 0 + _ ≤ _; omega) (hb C.2.2.1 hd) (fun _ _ => ⟨rfl, eT, hc, hs⟩)
  dsimp only [Pt.U, Pt.locs, Pt.cells, Pt.slots] at X' l1 l2 l3 st' hQ
  subst l1 l2 l3
  exact Goes.on (fun t k => st'.trans k) (k v T' L X' hQ)
theorem g_callU (C : Ctx p Z s m meth c bs own maxL ret) (X : Stand p l e R s m args below meth c T locs cells slots) {pc : Nat} {ls : Array Slot} {a : Addr} {K K' : String} {y z : MethodName} {index : Nat} {bytes : ByteArray} {maxY : Nat} {retY : Option FieldType} {rm : Room} {Q : Option Value → Heap → List Loc → Prop} {ps : List FieldType} {rr : Option FieldType} {stk : List Value} (w1 : (Cond.methodLink own index y).before a0 Z = true) (w2 : (Cond.declares y).before a0 Z = true) (w3 : (Cond.instanceMethod y).before a0 Z = true) (w4 : (Cond.superclass own y.cls).before a0 Z = true) (w7 : (Cond.selects K' z z).before a0 Z = true) (hz : z.cls = y.cls) (w5 : (Cond.code y bytes maxY retY).before a0 Z = true) (w6 : (Cond.initialized y.cls).before a0 Z = true) (hni : y.name ≠ "<init>") (E : Exa Z h a K) (hd : decode bs pc = .ok (.invokespecial index, 3)) (argsL rest : List Value) (W : Nat) (hM : MetFree l y (head1 [Cond.code y bytes maxY retY] rm) (fun a' U => a' = (.ref a :: argsL).toArray ∧ Z.Warmed39 U.vm ∧ U.heap = h) (fun _ _ _ _ _ => True) (fun _ U o U' => ∃ v L, o = .returned v ∧ Q v U'.heap L ∧ FrameEnd U o U' L rm.cells rm.slots)) (hpd : parseMethodDescriptor y.desc = some ⟨ps, rr⟩) (eT : T.heap = h) (pc' : Nat) (k : ∀ (v : Option Value) (T' : State) (L : List Loc), Stand p l e R s m args below meth c T' (locs ++ L) (cells + rm.cells) (slots + rm.slots) → Q v T'.heap L → Goes p.tables e below G (T'.setTop (mkF m pc' ls (v.toList ++ rest)))) (hy : y.cls ≠ "java/lang/invoke/MethodHandle" ∧ y.cls ≠ "java/lang/invoke/VarHandle" := by decide) (hf : rm.frames + 1 ≤ R.frames := by decide) (hl : W + (maxY + 11) + rm.locals ≤ R.locals := by decide) (hls : ls.size = maxL := by rfl) (hlen : argsL.length = ps.length := by rfl) (hst : stk = argsL.reverse ++ .ref a :: rest := by rfl) (hW : (rest.map fun v => v.category).sum ≤ W := by exact Nat.le_of_eq rfl) (hc : cells + rm.cells ≤ R.cells := by decide) (hs : slots + rm.slots ≤ R.slots := by decide) (hp : pc + 3 = pc' := by rfl) : Goes p.tables e below G (T.setTop (mkF m pc ls stk)) := by
  subst hp hst
  obtain ⟨cell, k0, q1, q2, q3, q4, -⟩ := E
  obtain ⟨k1, q5, -⟩ := C.2.1.alike.2.2 _ _ q3
  have v2 : (Cond.declares y).before args s = true := mvT C.2.1 w2
  have v3 : (Cond.instanceMethod y).before args s = true := mvT C.2.1 w3
  have v4 : (Cond.superclass own y.cls).before args s = true := mvT C.2.1 w4
  have v7 : (Cond.selects K' z z).before args s = true := mvT C.2.1 w7
  obtain ⟨r0, r, hn, hrm, hstatic, hsig⟩ := Cond.declares_spec v2
  obtain ⟨r0', r', hn', hrm', -, habs⟩ := Cond.instanceMethod_spec v3
  cases hn.symm.trans hn'
  cases hrm.symm.trans hrm'
  obtain ⟨cn, dk, kp, hcn, hdk, hkp, hsuper, -, -, hnid⟩ := Cond.superclass_spec C.2.2.2.2.1 v4
  have hcn' := findClass_of_methodNamed hn
  cases hcn.symm.trans hcn'
  obtain ⟨c2, r2, m2, -, -, u3, -, kP, u4, u5⟩ := Cond.selects_spec v7
  have u6 := findClass_of_methodNamed u3
  rw [hz] at u6
  have u7 : m2.cls = r0.cls := Option.some.inj (u6.symm.trans hcn')
  rw [u7] at u4
  cases hkp.symm.trans u4
  have hsame : (Cond.sameMethod y.cls y.cls y.name y.desc).before args s = true := by
    simp [Cond.before, Cond.holds, Cond.value, hcn', State.methodFound?_of_named hn hy, hn, hkp, u5]
  have hsub : s.vm.isSubclass r0.cls r0.cls = true := Jvm.Free.SB.SBLen.isSubclass_self _ _ _ hkp
  have hlen' : argsL.length = r.sig.parameters.length := lenOf hpd hlen _ hsig
  obtain ⟨v, _, ⟨T', L', k', n'⟩, -, X', ⟨L, hQ, l1, l2, l3⟩, st'⟩ := X.specialUpBack C.1 (own := own) (owner := y.cls) (x := y) C.2.2.2.2.1 (mvT C.2.1 w1) hsame hn hrm hstatic habs hni hdk hnid hcn' hsuper hsub (a := a) (cell := cell) (by rw [eT]; exact q1) (by intro c hq; rw [hq] at q4; exact Bool.noConfusion (q4 : true = false)) q5 (backOf (W := W) hM C.2.1 w5 w6 hf hl) (g := mkF m pc ls (argsL.reverse ++ .ref a :: rest)) rfl (by rw [C.2.2.2.1]; exact hls) (Steps.refl _) (argsL := argsL) (rest := rest) hlen' rfl (by show 2 * 0 + _ ≤ _; omega) (hb C.2.2.1 hd) (fun _ _ => ⟨rfl, eT, hc, hs⟩)
  dsimp only [Pt.U, Pt.locs, Pt.cells, Pt.slots] at X' l1 l2 l3 st' hQ
  subst l1 l2 l3
  exact Goes.on (fun t k => st'.trans k) (k v T' L X' hQ)
theorem g_newAE (C : Ctx p Z s m meth c bs own maxL ret) (X : Stand p l e R s m args below meth c T locs cells slots) {pc : Nat} {ls : Array Slot} {st : List Value} {aty : ArrayType} {n : Int32} {cap : Nat} {ad : String} (w : (Cond.arrayClass (newarray.typeOf aty)).before a0 Z = true) (had : "[" ++ (newarray.typeOf aty).toString = ad) (eT : T.heap = h) (hd : decode bs pc = .ok (.newarray aty, 2)) (pc' : Nat) (hn : ¬ n < 0) (hcap : n.toNatClampNeg ≤ cap) (hbig : cap * 8 ≤ 536870912) (hc : cells + 1 ≤ R.cells) (hs : slots + cap ≤ R.slots) (k : ∀ (T' : State) (h' : Heap) (b : Addr) (kd : ClassId), Stand p l e R s m args below meth c T' locs (cells + 1) (slots + cap) → T'.heap = h' → b = h.size → Ext h h' → Arv Z h' b kd (newarray.typeOf aty) n [] (defaultValue (newarray.typeOf aty)) → Exa Z h' b ad → Goes p.tables e below G (T'.setTop (mkF m pc' ls (.ref b :: st)))) (hp : pc + 2 = pc' := by rfl) : Goes p.tables e below G (T.setTop (mkF m pc ls (.int n :: st))) := by
  subst hp
  have hcb : componentBytes (newarray.typeOf aty) ≤ 8 := by cases aty <;> decide
  obtain ⟨cA, kA, comp, h1, h2, h3, X', st'⟩ := X.newarrayPrim C.1 (mvA C.2.1 w) (g := mkF m pc ls (.int n :: st)) rfl (hb C.2.2.1 hd) rfl hn (Nat.le_trans (Nat.mul_le_mul hcap hcb) hbig) hc (by omega)
  subst eT
  rw [C.2.1.alike.findClass] at h1
  obtain ⟨kZ, z1, -⟩ := Vm.findClass_spec h1
  obtain ⟨k', z2, z3⟩ := C.2.1.alike.2.2 _ _ z1
  cases h2.symm.trans z2
  have hkind : kZ.kind = .array comp (newarray.typeOf aty) := by rw [← h3, z3]
  have hN : (T.heap.push (Jvm.RoadKit.newA cA (newarray.typeOf aty) n))[T.heap.size]? = some (Jvm.RoadKit.newA cA (newarray.typeOf aty) n) := by simp
  have A : Arr Z (T.heap.push (Jvm.RoadKit.newA cA (newarray.typeOf aty) n)) T.heap.size (Jvm.RoadKit.newA cA (newarray.typeOf aty) n) (newarray.typeOf aty) := ⟨hN, ⟨by simp [Jvm.RoadKit.newA], kZ, z1, comp, hkind⟩, by simp [Jvm.RoadKit.newA]⟩
  refine Goes.on (fun t k => st' t k) (k _ _ T.heap.size cA (X'.more (Nat.le_refl _) (by omega)) rfl rfl ⟨by show T.heap.size ≤ (T.heap.push _).size; simp, fun a c h => ?_⟩ (Arv.new A hn) ⟨_, kZ, A.1, by rw [← had]; exact h1, z1, rfl, fun q => by rw [hkind] at q; cases q⟩)
  show (T.heap.push _)[a]? = _
  rw [Array.getElem?_push_lt (Array.getElem?_eq_some_iff.mp h).1]; exact (Array.getElem?_eq_getElem _).symm.trans h
theorem fitC_of {a : Addr} {kd : ClassId} {ty : FieldType} {n : Int32} {vs : List Value} {d : Value} {cl : Cell} (A : Arr Z h a cl ty) (H : Has cl vs d) (Gf : ∀ i, i < cl.slots.size → fits ty (vs.getD i d) = true) : FitC Z cl := fun i v hv => by
  have hi : i < cl.slots.size := (Array.getElem?_eq_some_iff.mp hv).1
  have e := H i hi
  rw [hv] at e
  obtain ⟨-, k, hk, comp, hkind⟩ := A.2.1
  have := Gf i hi
  rw [← Option.some.inj e] at this
  simpa [State.fitsSlot, State.slotType?, hk, hkind] using this
theorem g_clone (C : Ctx p Z s m meth c bs own maxL ret) (X : Stand p l e R s m args below meth c T locs cells slots) {pc : Nat} {ls : Array Slot} {st : List Value} {a : Addr} {kd : ClassId} {ty : FieldType} {n : Int32} {vs : List Value} {d : Value} {cap W index : Nat} {ad : String} (w1 : (Cond.methodLink own index ⟨ad, "clone", "()Ljava/lang/Object;"⟩).before a0 Z = true) (w2 : (Cond.sameMethod ad "java/lang/Object" "clone" "()Ljava/lang/Object;").before a0 Z = true) (w3 : (Cond.native ⟨"java/lang/Object", "clone", "()Ljava/lang/Object;"⟩).before a0 Z = true) (w4 : (Cond.instanceMethod ⟨"java/lang/Object", "clone", "()Ljava/lang/Object;"⟩).before a0 Z = true) (w5 : (Cond.selects ad ⟨ad, "clone", "()Ljava/lang/Object;"⟩ ⟨"java/lang/Object", "clone", "()Ljava/lang/Object;"⟩).before a0 Z = true) (w6 : (Cond.castable ad "java/lang/Cloneable").before a0 Z = true) (eT : T.heap = h) (V : Arv Z h a kd ty n vs d) (E : Exa Z h a ad) (hd : decode bs pc = .ok (.invokevirtual index, 3)) (pc' : Nat) (hls : ls.size = maxL) (hf : 1 ≤ R.frames) (hW : (st.map fun v => v.category).sum ≤ W) (hlo : W + 14 ≤ R.locals) (hcap : n.toNatClampNeg ≤ cap) (hc : cells + 1 ≤ R.cells) (hs : slots + cap ≤ R.slots) (k : ∀ (T' : State) (h' : Heap) (b : Addr), Stand p l e R s m args below meth c T' locs (cells + 1) (slots + cap) → T'.heap = h' → b = h.size → Ext h h' → Arv Z h' b kd ty n vs d → Exa Z h' b ad → Goes p.tables e below G (T'.setTop (mkF m pc' ls (.ref b :: st)))) (hp : pc + 3 = pc' := by rfl) : Goes p.tables e below G (T.setTop (mkF m pc ls (.ref a :: st))) := by
  subst hp
  obtain ⟨cl, A, q1, S, q3, H, Gf⟩ := V
  obtain ⟨T', h', X', e', E', A', x', st'⟩ := cloneA X C.1 C.2.1 C.2.2.2.2.1 w1 w2 w3 w4 w5 w6 eT A E (fitC_of (kd := kd) (n := n) A H Gf) (g := mkF m pc ls (.ref a :: st)) rfl (by rw [C.2.2.2.1]; exact hls) rfl (hb C.2.2.1 hd) hf (W := W) (by show 2 * 0 + _ ≤ _; omega) hlo (cap := cap) (by rw [S]; exact hcap) hc hs
  exact Goes.on (fun t k => st' t k) (k T' h' h.size X' e' rfl E' ⟨_, A', q1, S, q3, H, Gf⟩ x')
theorem g_castX (C : Ctx p Z s m meth c bs own maxL ret) (X : Stand p l e R s m args below meth c T locs cells slots) {pc : Nat} {ls : Array Slot} {st : List Value} {a : Addr} {index : Nat} {ad : String} (w1 : (Cond.classLink own index ad).before a0 Z = true) (w2 : (Cond.castable ad ad).before a0 Z = true) (eT : T.heap = h) (E : Exa Z h a ad) (hd : decode bs pc = .ok (.checkcast index, 3)) (pc' : Nat) (k : ∀ (T' : State), Stand p l e R s m args below meth c T' locs cells slots → T'.heap = h → Goes p.tables e below G (T'.setTop (mkF m pc' ls (.ref a :: st)))) (hp : pc + 3 = pc' := by rfl) : Goes p.tables e below G (T.setTop (mkF m pc ls (.ref a :: st))) := by
  subst hp
  obtain ⟨cl, kk, q1, q2, q3, q4, -⟩ := E
  obtain ⟨c1, cC, g1, g2, g3⟩ := Cond.castable_spec w2
  cases g1.symm.trans g2
  cases q2.symm.trans g1
  obtain ⟨T', X', e', st'⟩ := castY X C.1 C.2.1 C.2.2.2.2.1 w1 eT (F := ⟨cl, _, q1, q2, by simp [q4, g3]⟩) (g := mkF m pc ls (.ref a :: st)) rfl rfl (hb C.2.2.1 hd)
  exact Goes.on (fun t k => st' t k) (k T' X' e')
theorem alt_ne {b o x n : Nat} (q : b = o ∨ n ≤ b) (h1 : x ≠ o) (h2 : x < n) : x ≠ b := by omega
theorem alt_born {b o n n0 : Nat} (q : b = o ∨ n ≤ b) (h1 : n0 ≤ o) (h2 : n0 ≤ n) : n0 ≤ b := q.elim (fun q => q ▸ h1) (fun q => Nat.le_trans h2 q)
theorem alt_lift {b o n n0 : Nat} (q : b = o ∨ n ≤ b) (h : n0 ≤ n) : b = o ∨ n0 ≤ b := q.imp id (Nat.le_trans h)
theorem alt_sz {b o n n0 : Nat} (q : b = o ∨ n ≤ b) (h1 : n0 ≤ o) (h : n0 ≤ n) : n0 ≤ b := q.elim (fun q => q ▸ h1) (fun q => Nat.le_trans h q)
theorem alt_in {b o n : Nat} {ws : List Nat} (q : b = o ∨ n ≤ b) (h : o ∈ ws) : b ∈ ws ∨ n ≤ b := q.elim (fun q => Or.inl (by rw [q]; exact h)) Or.inr
theorem alt_safe {EL : List (String × Nat)} {vm : Vm} {b o : Addr} (q : b = o ∨ h.size ≤ b) (h1 : Safe Z EL vm h o) : Safe Z EL vm h b := q.elim (fun q => q ▸ h1) Safe.new
theorem declares_of {y : MethodName} {bytes : ByteArray} {maxY : Nat} {retY : Option FieldType} (w3 : (Cond.instanceMethod y).before a0 Z = true) (w5 : (Cond.code y bytes maxY retY).before a0 Z = true) : (Cond.declares y).before a0 Z = true := by
  obtain ⟨m, meth, hn, hm, hs, -⟩ := Cond.instanceMethod_spec w3
  obtain ⟨methL, cL, hmL, -, -, -, -, -, -, hsigL⟩ := Cond.code_spec hn w5
  cases hm.symm.trans hmL
  simp [Cond.before, Cond.holds, Cond.value, hn, hm, hs, hsigL]
theorem notFace_via {K : String} {y z : MethodName} (h : (Cond.selects K z z).before #[] s = true) (hz : z.cls = y.cls) : NotFace s y := fun r0 h0 => by
  obtain ⟨c2, r2, m2, -, -, u3, -, kP, u4, u5⟩ := Cond.selects_spec h
  have u6 := findClass_of_methodNamed u3
  rw [hz] at u6
  have u7 : m2.cls = r0.cls := Option.some.inj (u6.symm.trans (findClass_of_methodNamed h0))
  rw [u7] at u4
  exact ⟨kP, u4, u5⟩
theorem g_ifnonnullY (C : Ctx p Z s m meth c bs own maxL ret) (X : Stand p l e R s m args below meth c T locs cells slots) {pc : Nat} {ls : Array Slot} {st : List Value} {b : Addr} {o : Int} (hd : decode bs pc = .ok (.ifnonnull o, 3)) (pc' : Nat) (k : Goes p.tables e below G (T.setTop (mkF m pc' ls st))) (ho : 0 ≤ (pc : Int) + o := by decide) (hp : ((pc : Int) + o).toNat = pc' := by decide) : Goes p.tables e below G (T.setTop (mkF m pc ls (.ref b :: st))) :=
  Goes.on (fun _ k => XT.ifnonnullYes X.here C.1 rfl (pc0 := pc) (pc' := pc') rfl (hb C.2.2.1 hd) rfl ho hp k) k
theorem g_ifnonnullN (C : Ctx p Z s m meth c bs own maxL ret) (X : Stand p l e R s m args below meth c T locs cells slots) {pc : Nat} {ls : Array Slot} {st : List Value} {o : Int} (hd : decode bs pc = .ok (.ifnonnull o, 3)) (pc' : Nat) (k : Goes p.tables e below G (T.setTop (mkF m pc' ls st))) (hp : pc + 3 = pc' := by rfl) : Goes p.tables e below G (T.setTop (mkF m pc ls (.null :: st))) := by
  subst hp
  exact Goes.on (fun _ k => XT.ifnonnullNo X.here C.1 rfl (hb C.2.2.1 hd) rfl k) k
theorem g_acmp_ne (C : Ctx p Z s m meth c bs own maxL ret) (X : Stand p l e R s m args below meth c T locs cells slots) {pc : Nat} {ls : Array Slot} {st : List Value} {x y : Value} {o : Int} (h1 : x.isRef = true) (h2 : y.isRef = true) (hd : decode bs pc = .ok (.if_acmp .ne o, 3)) (pcT pcN : Nat) (hyes : ¬ x = y → Goes p.tables e below G (T.setTop (mkF m pcT ls st))) (hno : x = y → Goes p.tables e below G (T.setTop (mkF m pcN ls st))) (ho : 0 ≤ (pc : Int) + o := by decide) (hp : ((pc : Int) + o).toNat = pcT := by decide) (hq : pc + 3 = pcN := by rfl) : Goes p.tables e below G (T.setTop (mkF m pc ls (y :: x :: st))) := by
  subst hq
  by_cases q : x = y
  · exact Goes.on (fun _ k => XT.acmpNo X.here C.1 rfl (hb C.2.2.1 hd) rfl h1 h2 (by simp [XT.acmp, q]) k) (hno q)
  · exact Goes.on (fun _ k => XT.acmpYes X.here C.1 rfl (pc0 := pc) (pc' := pcT) rfl (hb C.2.2.1 hd) rfl h1 h2 (by simp [XT.acmp, q]) ho hp k) (hyes q)
theorem Exa.ns {x : Addr} {K : String} (E : Exa Z h x K) : ∀ cell : Cell, h[x]? = some cell → cell.vm.isStatics = false := by
  obtain ⟨c1, k1, h1, -, -, h4, -⟩ := E
  intro cell q
  cases h1.symm.trans q; exact h4
theorem Sta.keepN {h' : Heap} {K n d : String} {w : Value} {ws : List Addr} (F : Sta Z h K n d w) (Kp : Keep h h' ws) (q : ∀ x ∈ ws, ∀ cell : Cell, h[x]? = some cell → cell.vm.isStatics = false) : Sta Z h' K n d w := by
  obtain ⟨cf, i, k, f, st, cell, h1, h2, h3, h4, h5, h6, h7⟩ := F
  refine ⟨cf, i, k, f, st, cell, h1, h2, h3, h4, Kp.2.1 st cell h5 (fun r => ?_), h6, h7⟩
  have z := q st r cell h5
  rw [z] at h6; cases h6
theorem g_newA (C : Ctx p Z s m meth c bs own maxL ret) (X : Stand p l e R s m args below meth c T locs cells slots) {pc : Nat} {ls : Array Slot} {st : List Value} {aty : ArrayType} {n : Int32} {cap : Nat} (w : (Cond.arrayClass (newarray.typeOf aty)).before a0 Z = true) (eT : T.heap = h) (hd : decode bs pc = .ok (.newarray aty, 2)) (pc' : Nat) (hn : ¬ n < 0) (hcap : n.toNatClampNeg ≤ cap) (hbig : cap * 8 ≤ 536870912) (hc : cells + 1 ≤ R.cells) (hs : slots + cap ≤ R.slots) (k : ∀ (T' : State) (h' : Heap) (b : Addr) (kd : ClassId), Stand p l e R s m args below meth c T' locs (cells + 1) (slots + cap) → T'.heap = h' → b = h.size → Ext h h' → Arv Z h' b kd (newarray.typeOf aty) n [] (defaultValue (newarray.typeOf aty)) → Goes p.tables e below G (T'.setTop (mkF m pc' ls (.ref b :: st)))) (hp : pc + 2 = pc' := by rfl) : Goes p.tables e below G (T.setTop (mkF m pc ls (.int n :: st))) := by
  subst hp
  obtain ⟨T', h', kd, X', e', E', A', st'⟩ := newP X C.1 C.2.1 w eT (g := mkF m pc ls (.int n :: st)) rfl (hb C.2.2.1 hd) rfl hn hcap hbig hc hs
  exact Goes.on (fun t k => st' t k) (k T' h' h.size kd X' e' rfl E' (Arv.new A' hn))
theorem g_arraylength (C : Ctx p Z s m meth c bs own maxL ret) (X : Stand p l e R s m args below meth c T locs cells slots) {pc : Nat} {ls : Array Slot} {st : List Value} {a : Addr} {kd : ClassId} {ty : FieldType} {n : Int32} {vs : List Value} {d : Value} (eT : T.heap = h) (V : Arv Z h a kd ty n vs d) (hd : decode bs pc = .ok (.arraylength, 1)) (pc' : Nat) (k : Goes p.tables e below G (T.setTop (mkF m pc' ls (.int n :: st)))) (hp : pc + 1 = pc' := by rfl) : Goes p.tables e below G (T.setTop (mkF m pc ls (.ref a :: st))) := by
  subst hp
  obtain ⟨cl, A, q1, S, q3, -⟩ := V
  refine Goes.on (fun t k => X.arraylength C.1 (by rw [eT]; exact A.1) (State.isArrayOf_alike C.2.1.alike A.2.1) (g := mkF m pc ls (.ref a :: st)) rfl rfl (hb C.2.2.1 hd) t (by rw [len_of S q3]; exact k)) k
theorem g_castore (C : Ctx p Z s m meth c bs own maxL ret) (X : Stand p l e R s m args below meth c T locs cells slots) {pc : Nat} {ls : Array Slot} {st : List Value} {a : Addr} {kd : ClassId} {n j : Int32} {x : Int32} {vs : List Value} {d : Value} {i : Nat} (eT : T.heap = h) (V : Arv Z h a kd .char n vs d) (hj : ¬ j < 0 ∧ j < n) (hi : j.toNatClampNeg = i) (hlt : i < vs.length) (hd : decode bs pc = .ok (.castore, 1)) (pc' : Nat) (k : ∀ (T' : State) (h' : Heap), Stand p l e R s m args below meth c T' (locs ++ [⟨a, j.toNatClampNeg⟩]) cells slots → T'.heap = h' → Wr h h' a j.toNatClampNeg (.int (nar .char x)) → Arv Z h' a kd .char n (vs.set i (.int (nar .char x))) d → Goes p.tables e below G (T'.setTop (mkF m pc' ls st))) (hp : pc + 1 = pc' := by rfl) : Goes p.tables e below G (T.setTop (mkF m pc ls (.int x :: .int j :: .ref a :: st))) := by
  subst hp
  obtain ⟨cl, A, q1, S, q3, H, Gf⟩ := V
  obtain ⟨T', h', X', e', W', st'⟩ := stC X C.1 C.2.1 eT A (j := j) (inb_of S hj) (g := mkF m pc ls (.int x :: .int j :: .ref a :: st)) rfl rfl (hb C.2.2.1 hd)
  exact Goes.on (fun t k => st' t k) (k T' h' X' e' W' (Arv.set A q1 S q3 H Gf (fits_nar_char _) W' i hi hlt))
theorem g_bastore (C : Ctx p Z s m meth c bs own maxL ret) (X : Stand p l e R s m args below meth c T locs cells slots) {pc : Nat} {ls : Array Slot} {st : List Value} {a : Addr} {kd : ClassId} {n j : Int32} {x : Int32} {vs : List Value} {d : Value} {i : Nat} (eT : T.heap = h) (V : Arv Z h a kd .byte n vs d) (hj : ¬ j < 0 ∧ j < n) (hi : j.toNatClampNeg = i) (hlt : i < vs.length) (hd : decode bs pc = .ok (.bastore, 1)) (pc' : Nat) (k : ∀ (T' : State) (h' : Heap), Stand p l e R s m args below meth c T' (locs ++ [⟨a, j.toNatClampNeg⟩]) cells slots → T'.heap = h' → Wr h h' a j.toNatClampNeg (.int (nar .byte x)) → Arv Z h' a kd .byte n (vs.set i (.int (nar .byte x))) d → Goes p.tables e below G (T'.setTop (mkF m pc' ls st))) (hp : pc + 1 = pc' := by rfl) : Goes p.tables e below G (T.setTop (mkF m pc ls (.int x :: .int j :: .ref a :: st))) := by
  subst hp
  obtain ⟨cl, A, q1, S, q3, H, Gf⟩ := V
  obtain ⟨T', h', X', e', W', st'⟩ := stB X C.1 C.2.1 eT A (j := j) (inb_of S hj) (g := mkF m pc ls (.int x :: .int j :: .ref a :: st)) rfl rfl (hb C.2.2.1 hd)
  exact Goes.on (fun t k => st' t k) (k T' h' X' e' W' (Arv.set A q1 S q3 H Gf (fits_nar_byte _) W' i hi hlt))
theorem g_lastore (C : Ctx p Z s m meth c bs own maxL ret) (X : Stand p l e R s m args below meth c T locs cells slots) {pc : Nat} {ls : Array Slot} {st : List Value} {a : Addr} {kd : ClassId} {n j : Int32} {x : Int64} {vs : List Value} {d : Value} {i : Nat} (eT : T.heap = h) (V : Arv Z h a kd .long n vs d) (hj : ¬ j < 0 ∧ j < n) (hi : j.toNatClampNeg = i) (hlt : i < vs.length) (hd : decode bs pc = .ok (.lastore, 1)) (pc' : Nat) (k : ∀ (T' : State) (h' : Heap), Stand p l e R s m args below meth c T' (locs ++ [⟨a, j.toNatClampNeg⟩]) cells slots → T'.heap = h' → Wr h h' a j.toNatClampNeg (.long x) → Arv Z h' a kd .long n (vs.set i (.long x)) d → Goes p.tables e below G (T'.setTop (mkF m pc' ls st))) (hp : pc + 1 = pc' := by rfl) : Goes p.tables e below G (T.setTop (mkF m pc ls (.long x :: .int j :: .ref a :: st))) := by
  subst hp
  obtain ⟨cl, A, q1, S, q3, H, Gf⟩ := V
  obtain ⟨T', h', X', e', W', st'⟩ := stJ X C.1 C.2.1 eT A (j := j) (inb_of S hj) (g := mkF m pc ls (.long x :: .int j :: .ref a :: st)) rfl rfl (hb C.2.2.1 hd)
  exact Goes.on (fun t k => st' t k) (k T' h' X' e' W' (Arv.set A q1 S q3 H Gf rfl W' i hi hlt))
theorem g_caload (C : Ctx p Z s m meth c bs own maxL ret) (X : Stand p l e R s m args below meth c T locs cells slots) {pc : Nat} {ls : Array Slot} {st : List Value} {a : Addr} {kd : ClassId} {n j : Int32} {vs : List Value} {d v : Value} (eT : T.heap = h) (V : Arv Z h a kd .char n vs d) (hj : ¬ j < 0 ∧ j < n) (hv : vs.getD j.toNatClampNeg d = v) (hd : decode bs pc = .ok (.caload, 1)) (pc' : Nat) (k : Goes p.tables e below G (T.setTop (mkF m pc' ls (v :: st)))) (hp : pc + 1 = pc' := by rfl) : Goes p.tables e below G (T.setTop (mkF m pc ls (.int j :: .ref a :: st))) := by
  subst hp
  obtain ⟨cl, A, q1, S, q3, H, Gf⟩ := V
  exact Goes.on (fun t k => X.caload C.1 (j := j) (v := v) (by rw [eT]; exact A.1) (State.isArrayOf_alike C.2.1.alike A.2.1) A.2.2 (inb_of S hj) (H.at (inb_of S hj) hv) (g := mkF m pc ls (.int j :: .ref a :: st)) rfl rfl (hb C.2.2.1 hd) t k) k
theorem g_baload (C : Ctx p Z s m meth c bs own maxL ret) (X : Stand p l e R s m args below meth c T locs cells slots) {pc : Nat} {ls : Array Slot} {st : List Value} {a : Addr} {kd : ClassId} {n j : Int32} {vs : List Value} {d v : Value} (eT : T.heap = h) (V : Arv Z h a kd .byte n vs d) (hj : ¬ j < 0 ∧ j < n) (hv : vs.getD j.toNatClampNeg d = v) (hd : decode bs pc = .ok (.baload, 1)) (pc' : Nat) (k : Goes p.tables e below G (T.setTop (mkF m pc' ls (v :: st)))) (hp : pc + 1 = pc' := by rfl) : Goes p.tables e below G (T.setTop (mkF m pc ls (.int j :: .ref a :: st))) := by
  subst hp
  obtain ⟨cl, A, q1, S, q3, H, Gf⟩ := V
  exact Goes.on (fun t k => X.baloadBytes C.1 (j := j) (v := v) (by rw [eT]; exact A.1) (State.isArrayOf_alike C.2.1.alike A.2.1) A.2.2 (inb_of S hj) (H.at (inb_of S hj) hv) (g := mkF m pc ls (.int j :: .ref a :: st)) rfl rfl (hb C.2.2.1 hd) t k) k
theorem g_laload (C : Ctx p Z s m meth c bs own maxL ret) (X : Stand p l e R s m args below meth c T locs cells slots) {pc : Nat} {ls : Array Slot} {st : List Value} {a : Addr} {kd : ClassId} {n j : Int32} {vs : List Value} {d v : Value} (eT : T.heap = h) (V : Arv Z h a kd .long n vs d) (hj : ¬ j < 0 ∧ j < n) (hv : vs.getD j.toNatClampNeg d = v) (hd : decode bs pc = .ok (.laload, 1)) (pc' : Nat) (k : Goes p.tables e below G (T.setTop (mkF m pc' ls (v :: st)))) (hp : pc + 1 = pc' := by rfl) : Goes p.tables e below G (T.setTop (mkF m pc ls (.int j :: .ref a :: st))) := by
  subst hp
  obtain ⟨cl, A, q1, S, q3, H, Gf⟩ := V
  exact Goes.on (fun t k => X.laload C.1 (j := j) (v := v) (by rw [eT]; exact A.1) (State.isArrayOf_alike C.2.1.alike A.2.1) A.2.2 (inb_of S hj) (H.at (inb_of S hj) hv) (g := mkF m pc ls (.int j :: .ref a :: st)) rfl rfl (hb C.2.2.1 hd) t k) k
theorem safe_null {EL : List (String × Nat)} {vm : Vm} {x : Addr} (hal : Z.vm.Alike vm) (F : Fld Z h x "java/lang/String" "value" "[B" .null) (E : Exa Z h x "java/lang/String") : Safe Z EL vm h x := fun B => by
  obtain ⟨pp, -, u, a, -, q, -, Gq, rfl | rfl⟩ := B
  · obtain ⟨cell, cf, k, i, f, f1, f2, f3, f4, f5, f6, f7⟩ := F
    cases (show h[q.sa]? = some q.sC from Gq.ha).symm.trans f1
    obtain ⟨cS, ⟨⟨s1, s2, s3, ⟨cv, kv, iv, s4, s4'⟩, s5, s6, s7, s8, -⟩, -⟩, -⟩ := Gq
    obtain ⟨kv', z4⟩ := ff_back (U := Wst Z vm h) hal s4
    cases f2.symm.trans z4
    rw [s8] at f7; cases f7
  · obtain ⟨cell, k, e1, e2, e3, -, -⟩ := E
    cases (show h[q.sd]? = some q.SA from Gq.hd).symm.trans e1
    obtain ⟨cS, -, -, f, -⟩ := Gq
    have f' : vm.findClass "[B" = some q.SA.cls := f
    rw [hal.findClass] at f'
    obtain ⟨k1, q1, q2⟩ := Vm.findClass_spec f'
    obtain ⟨k2, q3, q4⟩ := Vm.findClass_spec e2
    cases q1.symm.trans q3
    exact absurd (q2.symm.trans q4) (by decide)
theorem safe_arv {EL : List (String × Nat)} {vm : Vm} {x : Addr} {kd : ClassId} {ty : FieldType} {n : Int32} {vs : List Value} {d : Value} (hal : Z.vm.Alike vm) (V : Arv Z h x kd ty n vs d) (ht : ty ≠ .byte) : Safe Z EL vm h x := by
  obtain ⟨cl, A, -⟩ := V
  exact Safe.arr hal A ht
theorem body_ofH {EL : List (String × Nat)} {y : MethodName} {bytes : ByteArray} {ws : List Cond} {as' : Array Value} {h0 : Heap} {Q : Option Value → Heap → List Loc → Prop} (hplain : plainFor y = true)
    (H : ∀ p e s m below meth c s₁ G, Ctx p Z (s.setVm s.vm) m meth c bytes y.cls maxL ret → meth.name = y.name → (s.setVm s.vm).methodNamed? y = some m → Stand p l e R (s.setVm s.vm) m as' below meth c s₁ [] 0 0 → s₁.heap = h0 → s.heap = h0 → s.Since s.vm 0 → CHv Z EL s.vm h0 → CHr Z EL s.vm h0 s.vm h0 →
      (∀ (v : Option Value) (L : List Loc) (T' : State), Q v T'.heap L → CHr Z EL s.vm h0 T'.vm T'.heap → ReturnedEndW s (.returned v) T' L R.cells R.slots → G (.returned v) T') →
      Goes p.tables e below G (s₁.setTop (entryFrame m as' maxL))) :
    MetFree l y (head1 (Cond.code y bytes maxL ret :: ws) R) (fun a U => a = as' ∧ Z.Warmed39 U.vm ∧ U.heap = h0 ∧ CHv Z EL U.vm h0) (fun _ _ _ _ _ => True) (fun _ U o U' => ∃ v L, o = .returned v ∧ Q v U'.heap L ∧ CHr Z EL U.vm U.heap U'.vm U'.heap ∧ ReturnedEndW U o U' L R.cells R.slots) := by
  refine MetFree.of_bodySF hplain hisR ?_
  intro p e s m args below meth c s₁ Bd hml0 hP hK
  obtain ⟨rfl, hZ, hh, hC⟩ := hP
  exact H p e s m below meth c s₁ _ ⟨Bd.exec, hZ, Bd.bytes, hml0, findClass_of_methodNamed Bd.named, Bd.returns, BodyLoose.notSynchronized Bd⟩ (name_of_methodNamed Bd.named Bd.method).1 Bd.named (Stand.of_body Bd) (by rw [← hh, Bd.state]; rfl) hh ((State.WarmedH.refl s).since 0) hC (CHr.refl hC)
    (fun v L T' hQ hR hE => ⟨v, L, rfl, hQ, by rw [hh]; exact hR, hE⟩)
theorem g_ldcCH {EL : List (String × Nat)} {vm0 : Vm} (C : Ctx p Z (s.setVm vm0) m meth c bs own maxL ret) (X : Stand p l e R (s.setVm vm0) m args below meth c T locs cells slots) {pc : Nat} {ls : Array Slot} {st : List Value} {text : String} {index k0 n : Nat} (w : (Cond.stringLink own index text).before a0 Z = true) (wS : ∀ a ∈ Bundle.stringAtoms, a.before a0 Z = true) (eT : T.heap = h) (hS : s.Since vm0 k0) (hk : k0 ≤ h.size) (hEL : EW Z a0 EL) (hmem : (own, index) ∈ EL) (H : CHv Z EL vm0 h) {vs : List Value} {z : Int32} (ht : (∀ c ∈ text.toList, c.toNat < 256) ∧ text.toList.map (fun c => Value.int (Jvm.Lit.byteI c.toNat.toUInt16)) = vs) (hz : ¬ z < 0) (hzl : z.toNatClampNeg = vs.length) (hd : decode bs pc = .ok (.ldc index, 2)) (pc' : Nat) (hn : 4 * text.toList.length ≤ n) (hbig : n ≤ 536870912) (hc : cells + 2 ≤ R.cells) (hl : slots + (n + 4) ≤ R.slots) (k : ∀ (b : Addr) (T' : State) (h' : Heap) (k1 : Nat) (b2 : Addr) (kd : ClassId), Ctx p Z (s.setVm T'.vm) m meth c bs own maxL ret → Stand p l e R (s.setVm T'.vm) m args below meth c T' locs (cells + 2) (slots + (n + 4)) → T'.heap = h' → Ext h h' → s.Since T'.vm k1 → k1 ≤ h'.size →
      Exa Z h' b "java/lang/String" → Fld Z h' b "java/lang/String" "coder" "B" (.int 0) → Fld Z h' b "java/lang/String" "value" "[B" (.ref b2) → Arv Z h' b2 kd .byte z vs (.int 0) → CHr Z EL vm0 h T'.vm h' → (∀ x, Safe Z EL T'.vm h' x → x ≠ b ∧ x ≠ b2) → Goes p.tables e below G (T'.setTop (mkF m pc' ls (.ref b :: st)))) (hp : pc + 2 = pc' := by rfl) : Goes p.tables e below G (T.setTop (mkF m pc ls st)) := by
  subst hp
  obtain ⟨b, T', h', k1, b2, kd, X', e', E', hS', hk', hZ', hown', f1, f2, f3, f4, -, -, A, -, Sf, st'⟩ := ldcCH X C.1 C.2.1 C.2.2.2.2.1 w wS eT hS hk hEL hmem H ht hz hzl (g := mkF m pc ls st) rfl (hb C.2.2.1 hd) hn hbig hc hl
  exact Goes.on (fun t k => st' t k) (k b T' h' k1 b2 kd ⟨C.1, hZ', C.2.2.1, C.2.2.2.1, hown', C.2.2.2.2.2⟩ X' e' E' hS' hk' f1 f2 f3 f4 A Sf)
theorem g_retNH {t : FieldType} {EL : List (String × Nat)} {vm0 : Vm} {k0 : Nat} {h0 : Heap} (C : Ctx p Z (s.setVm vm0) m meth c bs own maxL (some t)) (X : Stand p l e R (s.setVm vm0) m args below meth c T locs cells slots) {Q : Option Value → Heap → List Loc → Prop} (K : ∀ (v : Option Value) (L : List Loc) (T' : State), Q v T'.heap L → CHr Z EL s.vm h0 T'.vm T'.heap → ReturnedEndW s (.returned v) T' L R.cells R.slots → G (.returned v) T') (hS : s.Since vm0 k0) (hk : k0 ≤ h.size) (hEL : EW Z a0 EL) (H : CHv Z EL vm0 h) (Rr : CHr Z EL s.vm h0 vm0 h) {pc : Nat} {ls : Array Slot} {rest : List Value} {z : Int32} (ht : t = .boolean ∨ t = .byte ∨ t = .char ∨ t = .short) (hd : decode bs pc = .ok (.ireturn, 1)) (hc : cells ≤ R.cells) (hs : slots ≤ R.slots) (eT : T.heap = h) (hQ : Q (some (.int (nar t z))) h locs) : Goes p.tables e below G (T.setTop (mkF m pc ls (.int z :: rest))) := by
  have hlk : meth.locks = false := C.2.2.2.2.2.2
  obtain ⟨fs, hr, hrun, hended, hE⟩ := X.leaveW hS (by rw [eT]; exact hk) (v := some (.int (nar t z))) (fun q => by rw [C.2.2.2.2.2.1] at q; cases q) hlk
  refine ⟨_, _, ?_, hrun, hended, K _ locs _ (by show Q _ T.heap locs; rw [eT]; exact hQ) (by show CHr Z EL s.vm h0 T.vm T.heap; rw [eT]; exact Rr.trans (CHv.at X C.2.1 hEL H)) ⟨hE.1, hE.2.1, hE.2.2.1, hE.2.2.2.mono hc hs⟩⟩
  exact retN X C.1 C.2.2.2.2.2.1 ht (hb C.2.2.1 hd) hr
theorem g_retAH {t : FieldType} {EL : List (String × Nat)} {vm0 : Vm} {k0 : Nat} {h0 : Heap} (C : Ctx p Z (s.setVm vm0) m meth c bs own maxL (some t)) (X : Stand p l e R (s.setVm vm0) m args below meth c T locs cells slots) {Q : Option Value → Heap → List Loc → Prop} (K : ∀ (v : Option Value) (L : List Loc) (T' : State), Q v T'.heap L → CHr Z EL s.vm h0 T'.vm T'.heap → ReturnedEndW s (.returned v) T' L R.cells R.slots → G (.returned v) T') (hS : s.Since vm0 k0) (hk : k0 ≤ h.size) (hEL : EW Z a0 EL) (H : CHv Z EL vm0 h) (Rr : CHr Z EL s.vm h0 vm0 h) {pc : Nat} {ls : Array Slot} {rest : List Value} {w : Value} (ht : t.isReference = true) (hn : narrow t w = w) (hw : w.isRef = true) (hd : decode bs pc = .ok (.areturn, 1)) (hc : cells ≤ R.cells) (hs : slots ≤ R.slots) (eT : T.heap = h) (hQ : Q (some w) h locs) : Goes p.tables e below G (T.setTop (mkF m pc ls (w :: rest))) := by
  have hlk : meth.locks = false := C.2.2.2.2.2.2
  obtain ⟨fs, hr, hrun, hended, hE⟩ := X.leaveW hS (by rw [eT]; exact hk) (v := some w) (fun q => by rw [C.2.2.2.2.2.1] at q; cases q) hlk
  refine ⟨_, _, ?_, hrun, hended, K _ locs _ (by show Q _ T.heap locs; rw [eT]; exact hQ) (by show CHr Z EL s.vm h0 T.vm T.heap; rw [eT]; exact Rr.trans (CHv.at X C.2.1 hEL H)) ⟨hE.1, hE.2.1, hE.2.2.1, hE.2.2.2.mono hc hs⟩⟩
  exact retOut X C.1 (w := w) (i := .areturn) C.2.2.2.2.2.1 hn (Or.inr (Or.inr (Or.inr (Or.inr ⟨rfl, ht, hw⟩)))) (hb C.2.2.1 hd) hr
theorem g_retVH {EL : List (String × Nat)} {vm0 : Vm} {k0 : Nat} {h0 : Heap} (C : Ctx p Z (s.setVm vm0) m meth c bs own maxL (none)) (X : Stand p l e R (s.setVm vm0) m args below meth c T locs cells slots) {Q : Option Value → Heap → List Loc → Prop} (K : ∀ (v : Option Value) (L : List Loc) (T' : State), Q v T'.heap L → CHr Z EL s.vm h0 T'.vm T'.heap → ReturnedEndW s (.returned v) T' L R.cells R.slots → G (.returned v) T') (hS : s.Since vm0 k0) (hk : k0 ≤ h.size) (hEL : EW Z a0 EL) (H : CHv Z EL vm0 h) (Rr : CHr Z EL s.vm h0 vm0 h) {pc : Nat} {ls : Array Slot}  (hd : decode bs pc = .ok (.return_, 1)) (hc : cells ≤ R.cells) (hs : slots ≤ R.slots) (eT : T.heap = h) (hQ : Q (none) h locs) : Goes p.tables e below G (T.setTop (mkF m pc ls [])) := by
  have hlk : meth.locks = false := C.2.2.2.2.2.2
  obtain ⟨fs, hr, hrun, hended, hE⟩ := X.leaveW hS (by rw [eT]; exact hk) (v := none) (fun _ => rfl) hlk
  refine ⟨_, _, ?_, hrun, hended, K _ locs _ (by show Q _ T.heap locs; rw [eT]; exact hQ) (by show CHr Z EL s.vm h0 T.vm T.heap; rw [eT]; exact Rr.trans (CHv.at X C.2.1 hEL H)) ⟨hE.1, hE.2.1, hE.2.2.1, hE.2.2.2.mono hc hs⟩⟩
  exact X.returnOut C.1 C.2.2.2.2.2.1 (hb C.2.2.1 hd) hr
theorem g_callIH {EL : List (String × Nat)} {vm0 : Vm} {k0 : Nat} (C : Ctx p Z (s.setVm vm0) m meth c bs own maxL ret) (X : Stand p l e R (s.setVm vm0) m args below meth c T locs cells slots) (hS : s.Since vm0 k0) (hk : k0 ≤ h.size) (hEL : EW Z a0 EL) (H : CHv Z EL vm0 h) {pc : Nat} {ls : Array Slot} {a : Addr} {y : MethodName} {index : Nat} {bytes : ByteArray} {maxY : Nat} {rm : Room} {Q : Option Value → Heap → List Loc → Prop} {ps : List FieldType} {rr : Option FieldType} {stk : List Value} (hn : y.name = "<init>") (w1 : (Cond.methodLink own index y).before a0 Z = true) (w2 : (Cond.instanceMethod y).before a0 Z = true) (w3 : (Cond.initialized y.cls).before a0 Z = true) (w4 : (Cond.code y bytes maxY none).before a0 Z = true) (hd : decode bs pc = .ok (.invokespecial index, 3)) (argsL rest : List Value) (W : Nat) (hM : MetFree l y (head1 [Cond.code y bytes maxY none] rm) (fun a' U => a' = (.ref a :: argsL).toArray ∧ Z.Warmed39 U.vm ∧ U.heap = h ∧ CHv Z EL U.vm h) (fun _ _ _ _ _ => True) (fun _ U o U' => ∃ v L, o = .returned v ∧ Q v U'.heap L ∧ CHr Z EL U.vm U.heap U'.vm U'.heap ∧ ReturnedEndW U o U' L rm.cells rm.slots)) (hpd : parseMethodDescriptor y.desc = some ⟨ps, rr⟩) (eT : T.heap = h) (pc' : Nat) (k : ∀ (v : Option Value) (T' : State) (L : List Loc), Ctx p Z (s.setVm T'.vm) m meth c bs own maxL ret → Stand p l e R (s.setVm T'.vm) m args below meth c T' (locs ++ L) (cells + rm.cells) (slots + rm.slots) → Q v T'.heap L → s.Since T'.vm T'.heap.size → CHr Z EL vm0 h T'.vm T'.heap → Goes p.tables e below G (T'.setTop (mkF m pc' ls (v.toList ++ rest)))) (hy : y.cls ≠ "java/lang/invoke/MethodHandle" ∧ y.cls ≠ "java/lang/invoke/VarHandle" := by decide) (hf : rm.frames + 1 ≤ R.frames := by decide) (hl : W + (maxY + 11) + rm.locals ≤ R.locals := by decide) (hls : ls.size = maxL := by rfl) (hlen : argsL.length = ps.length := by rfl) (hst : stk = argsL.reverse ++ .ref a :: rest := by rfl) (hW : (rest.map fun v => v.category).sum ≤ W := by exact Nat.le_of_eq rfl) (hc : cells + rm.cells ≤ R.cells := by decide) (hs : slots + rm.slots ≤ R.slots := by decide) (hp : pc + 3 = pc' := by rfl) : Goes p.tables e below G (T.setTop (mkF m pc ls stk)) := by
  subst hp hst
  obtain ⟨v, _, ⟨T', L', k', n'⟩, -, X', hS2, hgr, ⟨L, hQ, l1, l2, l3, A⟩, st'⟩ := X.specialBackS C.1 (y := y) hn C.2.2.2.2.1 (mvT C.2.1 w1) (mvT C.2.1 w2) (mvT C.2.1 w4) hy (backOfSH (W := W) hM C.2.1 w4 w3 hf hl hEL H) (g := mkF m pc ls (argsL.reverse ++ .ref a :: rest)) rfl (by rw [C.2.2.2.1]; exact hls) (Steps.refl _) (a := a) (argsL := argsL) (rest := rest) (lenOf hpd hlen) rfl (by show 2 * 0 + _ ≤ _; omega) (hb C.2.2.1 hd) (fun _ _ => ⟨rfl, eT, hc, hs⟩)
  dsimp only [Pt.U, Pt.locs, Pt.cells, Pt.slots] at X' l1 l2 l3 st' hQ hS2 hgr A
  subst l1 l2 l3
  have hZ' : Z.Warmed39 (s.setVm T'.vm).vm := State.Warmed39.trans (t := s.setVm vm0) C.2.1 hS2.1
  have hown' : (s.setVm T'.vm).vm.findClass own = some m.cls := by rw [show (s.setVm T'.vm).vm = T'.vm from rfl, hS2.1.alike.findClass]; exact C.2.2.2.2.1
  exact Goes.on (fun t k => st'.trans k) (k v T' L ⟨C.1, hZ', C.2.2.1, C.2.2.2.1, hown', C.2.2.2.2.2⟩ X' hQ (foldS hS (by rw [eT]; exact hk) hS2 hgr) A)
theorem g_callVH {EL : List (String × Nat)} {vm0 : Vm} {k0 : Nat} (C : Ctx p Z (s.setVm vm0) m meth c bs own maxL ret) (X : Stand p l e R (s.setVm vm0) m args below meth c T locs cells slots) (hS : s.Since vm0 k0) (hk : k0 ≤ h.size) (hEL : EW Z a0 EL) (H : CHv Z EL vm0 h) {pc : Nat} {ls : Array Slot} {a : Addr} {K : String} {y z : MethodName} {index : Nat} {bytes : ByteArray} {maxY : Nat} {retY : Option FieldType} {rm : Room} {Q : Option Value → Heap → List Loc → Prop} {ps : List FieldType} {rr : Option FieldType} {stk : List Value} (w1 : (Cond.methodLink own index y).before a0 Z = true) (w2 : (Cond.declares y).before a0 Z = true) (hnf : NotFace (s.setVm vm0) y) (w3 : (Cond.selects K y z).before a0 Z = true) (w4 : (Cond.instanceMethod z).before a0 Z = true) (w5 : (Cond.code z bytes maxY retY).before a0 Z = true) (w6 : (Cond.initialized z.cls).before a0 Z = true) (E : Exa Z h a K) (hd : decode bs pc = .ok (.invokevirtual index, 3)) (argsL rest : List Value) (W : Nat) (hM : MetFree l z (head1 [Cond.code z bytes maxY retY] rm) (fun a' U => a' = (.ref a :: argsL).toArray ∧ Z.Warmed39 U.vm ∧ U.heap = h ∧ CHv Z EL U.vm h) (fun _ _ _ _ _ => True) (fun _ U o U' => ∃ v L, o = .returned v ∧ Q v U'.heap L ∧ CHr Z EL U.vm U.heap U'.vm U'.heap ∧ ReturnedEndW U o U' L rm.cells rm.slots)) (hpd : parseMethodDescriptor y.desc = some ⟨ps, rr⟩) (eT : T.heap = h) (pc' : Nat) (k : ∀ (v : Option Value) (T' : State) (L : List Loc), Ctx p Z (s.setVm T'.vm) m meth c bs own maxL ret → Stand p l e R (s.setVm T'.vm) m args below meth c T' (locs ++ L) (cells + rm.cells) (slots + rm.slots) → Q v T'.heap L → s.Since T'.vm T'.heap.size → CHr Z EL vm0 h T'.vm T'.heap → Goes p.tables e below G (T'.setTop (mkF m pc' ls (v.toList ++ rest)))) (hy : y.cls ≠ "java/lang/invoke/MethodHandle" ∧ y.cls ≠ "java/lang/invoke/VarHandle" := by decide) (hf : rm.frames + 1 ≤ R.frames := by decide) (hl : W + (maxY + 11) + rm.locals ≤ R.locals := by decide) (hls : ls.size = maxL := by rfl) (hlen : argsL.length = ps.length := by rfl) (hst : stk = argsL.reverse ++ .ref a :: rest := by rfl) (hW : (rest.map fun v => v.category).sum ≤ W := by exact Nat.le_of_eq rfl) (hc : cells + rm.cells ≤ R.cells := by decide) (hs : slots + rm.slots ≤ R.slots := by decide) (hp : pc + 3 = pc' := by rfl) : Goes p.tables e below G (T.setTop (mkF m pc ls stk)) := by
  subst hp hst
  obtain ⟨cq, kq, qa, qb, qc⟩ := isOf C.2.1 eT E
  obtain ⟨v, _, ⟨T', L', k', n'⟩, -, X', hS2, hgr, ⟨L, hQ, l1, l2, l3, A⟩, st'⟩ := X.virtualBackS C.1 (y := y) (z := z) C.2.2.2.2.1 (mvT C.2.1 w1) (mvT C.2.1 w2) hnf (mvT C.2.1 w3) (mvT C.2.1 w4) hy (backOfSH (W := W) hM C.2.1 w5 w6 hf hl hEL H) qa qc (g := mkF m pc ls (argsL.reverse ++ .ref a :: rest)) rfl (by rw [C.2.2.2.1]; exact hls) (Steps.refl _) (argsL := argsL) (rest := rest) (lenOf hpd hlen) rfl (by show 2 * 0 + _ ≤ _; omega) (hb C.2.2.1 hd) (fun _ _ => ⟨rfl, eT, hc, hs⟩)
  dsimp only [Pt.U, Pt.locs, Pt.cells, Pt.slots] at X' l1 l2 l3 st' hQ hS2 hgr A
  subst l1 l2 l3
  have hZ' : Z.Warmed39 (s.setVm T'.vm).vm := State.Warmed39.trans (t := s.setVm vm0) C.2.1 hS2.1
  have hown' : (s.setVm T'.vm).vm.findClass own = some m.cls := by rw [show (s.setVm T'.vm).vm = T'.vm from rfl, hS2.1.alike.findClass]; exact C.2.2.2.2.1
  exact Goes.on (fun t k => st'.trans k) (k v T' L ⟨C.1, hZ', C.2.2.1, C.2.2.2.1, hown', C.2.2.2.2.2⟩ X' hQ (foldS hS (by rw [eT]; exact hk) hS2 hgr) A)
theorem g_acopy (C : Ctx p Z s m meth c bs own maxL ret) (X : Stand p l e R s m args below meth c T locs cells slots) {pc : Nat} {ls : Array Slot} {st : List Value} {index n0 : Nat} {a b : Addr} {k1 k2 : ClassId} {ty : FieldType} {z z' sp dp nn : Int32} {vs vd us ur : List Value} {dv dd : Value} (w1 : (Cond.methodLink own index Jvm.Stand.acN).before a0 Z = true) (w2 : (Cond.native Jvm.Stand.acN).before a0 Z = true) (w3 : (Cond.static Jvm.Stand.acN).before a0 Z = true) (w4 : (Cond.initialized "java/lang/System").before a0 Z = true) (eT : T.heap = h) (A : Arv Z h a k1 ty z vs dv) (B : Arv Z h b k2 ty z' vd dd) (hty : refKind ty = false) (h1 : ¬ sp < 0) (h2 : ¬ dp < 0) (h3 : ¬ nn < 0) (h4 : sp.toNatClampNeg + nn.toNatClampNeg ≤ z.toNatClampNeg) (h5 : dp.toNatClampNeg + nn.toNatClampNeg ≤ z'.toNatClampNeg) (hus : (List.range nn.toNatClampNeg).map (fun i => vs.getD (sp.toNatClampNeg + i) dv) = us) (hl : dp.toNatClampNeg + nn.toNatClampNeg ≤ vd.length) (hur : vd.take dp.toNatClampNeg ++ us ++ vd.drop (dp.toNatClampNeg + nn.toNatClampNeg) = ur) (N : Fr n0 locs) (ge : n0 ≤ b) (hls : ls.size = maxL) (hd : decode bs pc = .ok (.invokestatic index, 3)) (pc' : Nat) (hf : 1 ≤ R.frames) {W : Nat} (hW : (st.map fun v => v.category).sum ≤ W) (hlo : W + (nativeFrameWords "java/lang/System" "arraycopy" 5 + 11) ≤ R.locals) (k : ∀ (T' : State) (h' : Heap) (L : List Loc), Stand p l e R s m args below meth c T' L cells slots → T'.heap = h' → Fr n0 L → Keep h h' [b] → Arv Z h' b k2 ty z' ur dd → Goes p.tables e below G (T'.setTop (mkF m pc' ls st))) (hp : pc + 3 = pc' := by rfl) : Goes p.tables e below G (T.setTop (mkF m pc ls (.int nn :: .int dp :: .ref b :: .int sp :: .ref a :: st))) := by
  subst hp hur
  obtain ⟨T', h', L, X', e', N', K', V', st'⟩ := cpA X C.1 C.2.1 C.2.2.2.2.1 w1 w2 w3 w4 eT A B (Or.inl ⟨rfl, hty⟩) h1 h2 h3 h4 h5 hus.symm hl N ge (g := mkF m pc ls (.int nn :: .int dp :: .ref b :: .int sp :: .ref a :: st)) rfl (by rw [C.2.2.2.1]; exact hls) rfl (hb C.2.2.1 hd) hf (W := W) (by show 2 * 0 + _ ≤ _; omega) hlo
  exact Goes.on (fun t k => st' t k) (k T' h' L X' e' N' K' V')
abbrev OwnQ (w : Option Value) (h0 : Heap) (n0 : Nat) (v : Option Value) (h : Heap) (L : List Loc) : Prop := v = w ∧ Fr n0 L ∧ h = h0
abbrev CallS (own : String) (index : Nat) (y : MethodName) (bytes : ByteArray) (maxY : Nat) (retY : Option FieldType) (a0 : Array Value) (Z : State) : Prop := (Cond.methodLink own index y).before a0 Z = true ∧ (Cond.static y).before a0 Z = true ∧ (Cond.initialized y.cls).before a0 Z = true ∧ (Cond.code y bytes maxY retY).before a0 Z = true
abbrev CallV (own : String) (index : Nat) (y : MethodName) (K : String) (bytes : ByteArray) (maxY : Nat) (retY : Option FieldType) (a0 : Array Value) (Z : State) : Prop := (Cond.methodLink own index y).before a0 Z = true ∧ (Cond.declares y).before a0 Z = true ∧ (Cond.selects K y y).before a0 Z = true ∧ (Cond.instanceMethod y).before a0 Z = true ∧ (Cond.code y bytes maxY retY).before a0 Z = true ∧ (Cond.initialized y.cls).before a0 Z = true
theorem g_callS0 (C : Ctx p Z s m meth c bs own maxL ret) (X : Stand p l e R s m args below meth c T locs cells slots) {pc : Nat} {ls : Array Slot} {y : MethodName} {index : Nat} {bytes : ByteArray} {maxY : Nat} {retY : Option FieldType} {rm : Room} {ps : List FieldType} {rr : Option FieldType} {stk : List Value} {n0 : Nat} {w : Value} (B : CallS own index y bytes maxY retY a0 Z) (hd : decode bs pc = .ok (.invokestatic index, 3)) (argsL rest : List Value) (W : Nat) (hM : MetFree l y (head1 [Cond.code y bytes maxY retY] rm) (fun a' U => a' = argsL.toArray ∧ Z.Warmed39 U.vm ∧ U.heap = h) (fun _ _ _ _ _ => True) (fun _ U o U' => ∃ v L, o = .returned v ∧ OwnQ (some w) h n0 v U'.heap L ∧ FrameEnd U o U' L rm.cells rm.slots)) (N : Fr n0 locs) (hpd : parseMethodDescriptor y.desc = some ⟨ps, rr⟩) (eT : T.heap = h) (pc' : Nat) (k : ∀ (T' : State) (L : List Loc), Stand p l e R s m args below meth c T' (locs ++ L) (cells + rm.cells) (slots + rm.slots) → Fr n0 (locs ++ L) → T'.heap = h → Goes p.tables e below G (T'.setTop (mkF m pc' ls (w :: rest)))) (hy : y.cls ≠ "java/lang/invoke/MethodHandle" ∧ y.cls ≠ "java/lang/invoke/VarHandle" := by decide) (hf : rm.frames + 1 ≤ R.frames := by decide) (hl : W + (maxY + 11) + rm.locals ≤ R.locals := by decide) (hls : ls.size = maxL := by rfl) (hlen : argsL.length = ps.length := by rfl) (hst : stk = argsL.reverse ++ rest := by rfl) (hW : (rest.map fun v => v.category).sum ≤ W := by exact Nat.le_of_eq rfl) (hc : cells + rm.cells ≤ R.cells := by decide) (hs : slots + rm.slots ≤ R.slots := by decide) (hp : pc + 3 = pc' := by rfl) : Goes p.tables e below G (T.setTop (mkF m pc ls stk)) :=
  g_callS C X B.1 B.2.1 B.2.2.1 B.2.2.2 hd argsL rest W hM hpd eT pc' (fun v T' L X' hQ => by obtain ⟨rfl, Nq, eq⟩ := hQ; exact k T' L X' (Fr.app N Nq) eq) hy hf hl hls hlen hst hW hc hs hp
theorem g_callSn (C : Ctx p Z s m meth c bs own maxL ret) (X : Stand p l e R s m args below meth c T locs cells slots) {pc : Nat} {ls : Array Slot} {y : MethodName} {index : Nat} {bytes : ByteArray} {maxY : Nat} {retY : Option FieldType} {rm : Room} {ps : List FieldType} {rr : Option FieldType} {stk : List Value} {n0 : Nat} (B : CallS own index y bytes maxY retY a0 Z) (hd : decode bs pc = .ok (.invokestatic index, 3)) (argsL rest : List Value) (W : Nat) (hM : MetFree l y (head1 [Cond.code y bytes maxY retY] rm) (fun a' U => a' = argsL.toArray ∧ Z.Warmed39 U.vm ∧ U.heap = h) (fun _ _ _ _ _ => True) (fun _ U o U' => ∃ v L, o = .returned v ∧ OwnQ none h n0 v U'.heap L ∧ FrameEnd U o U' L rm.cells rm.slots)) (N : Fr n0 locs) (hpd : parseMethodDescriptor y.desc = some ⟨ps, rr⟩) (eT : T.heap = h) (pc' : Nat) (k : ∀ (T' : State) (L : List Loc), Stand p l e R s m args below meth c T' (locs ++ L) (cells + rm.cells) (slots + rm.slots) → Fr n0 (locs ++ L) → T'.heap = h → Goes p.tables e below G (T'.setTop (mkF m pc' ls (rest)))) (hy : y.cls ≠ "java/lang/invoke/MethodHandle" ∧ y.cls ≠ "java/lang/invoke/VarHandle" := by decide) (hf : rm.frames + 1 ≤ R.frames := by decide) (hl : W + (maxY + 11) + rm.locals ≤ R.locals := by decide) (hls : ls.size = maxL := by rfl) (hlen : argsL.length = ps.length := by rfl) (hst : stk = argsL.reverse ++ rest := by rfl) (hW : (rest.map fun v => v.category).sum ≤ W := by exact Nat.le_of_eq rfl) (hc : cells + rm.cells ≤ R.cells := by decide) (hs : slots + rm.slots ≤ R.slots := by decide) (hp : pc + 3 = pc' := by rfl) : Goes p.tables e below G (T.setTop (mkF m pc ls stk)) :=
  g_callS C X B.1 B.2.1 B.2.2.1 B.2.2.2 hd argsL rest W hM hpd eT pc' (fun v T' L X' hQ => by obtain ⟨rfl, Nq, eq⟩ := hQ; exact k T' L X' (Fr.app N Nq) eq) hy hf hl hls hlen hst hW hc hs hp
theorem g_callV0 (C : Ctx p Z s m meth c bs own maxL ret) (X : Stand p l e R s m args below meth c T locs cells slots) {pc : Nat} {ls : Array Slot} {y : MethodName} {index : Nat} {bytes : ByteArray} {maxY : Nat} {retY : Option FieldType} {rm : Room} {ps : List FieldType} {rr : Option FieldType} {stk : List Value} {n0 : Nat} {a : Addr} {K : String} {w : Value} (B : CallV own index y K bytes maxY retY a0 Z) (E : Exa Z h a K) (hd : decode bs pc = .ok (.invokevirtual index, 3)) (argsL rest : List Value) (W : Nat) (hM : MetFree l y (head1 [Cond.code y bytes maxY retY] rm) (fun a' U => a' = (.ref a :: argsL).toArray ∧ Z.Warmed39 U.vm ∧ U.heap = h) (fun _ _ _ _ _ => True) (fun _ U o U' => ∃ v L, o = .returned v ∧ OwnQ (some w) h n0 v U'.heap L ∧ FrameEnd U o U' L rm.cells rm.slots)) (N : Fr n0 locs) (hpd : parseMethodDescriptor y.desc = some ⟨ps, rr⟩) (eT : T.heap = h) (pc' : Nat) (k : ∀ (T' : State) (L : List Loc), Stand p l e R s m args below meth c T' (locs ++ L) (cells + rm.cells) (slots + rm.slots) → Fr n0 (locs ++ L) → T'.heap = h → Goes p.tables e below G (T'.setTop (mkF m pc' ls (w :: rest)))) (hy : y.cls ≠ "java/lang/invoke/MethodHandle" ∧ y.cls ≠ "java/lang/invoke/VarHandle" := by decide) (hf : rm.frames + 1 ≤ R.frames := by decide) (hl : W + (maxY + 11) + rm.locals ≤ R.locals := by decide) (hls : ls.size = maxL := by rfl) (hlen : argsL.length = ps.length := by rfl) (hst : stk = argsL.reverse ++ .ref a :: rest := by rfl) (hW : (rest.map fun v => v.category).sum ≤ W := by exact Nat.le_of_eq rfl) (hc : cells + rm.cells ≤ R.cells := by decide) (hs : slots + rm.slots ≤ R.slots := by decide) (hp : pc + 3 = pc' := by rfl) : Goes p.tables e below G (T.setTop (mkF m pc ls stk)) :=
  g_callV C X B.1 B.2.1 (notFace_of_selects (args := #[]) (mvT C.2.1 B.2.2.1)) B.2.2.1 B.2.2.2.1 B.2.2.2.2.1 B.2.2.2.2.2 E hd argsL rest W hM hpd eT pc' (fun v T' L X' hQ => by obtain ⟨rfl, Nq, eq⟩ := hQ; exact k T' L X' (Fr.app N Nq) eq) hy hf hl hls hlen hst hW hc hs hp
theorem g_callVn (C : Ctx p Z s m meth c bs own maxL ret) (X : Stand p l e R s m args below meth c T locs cells slots) {pc : Nat} {ls : Array Slot} {y : MethodName} {index : Nat} {bytes : ByteArray} {maxY : Nat} {retY : Option FieldType} {rm : Room} {ps : List FieldType} {rr : Option FieldType} {stk : List Value} {n0 : Nat} {a : Addr} {K : String} (B : CallV own index y K bytes maxY retY a0 Z) (E : Exa Z h a K) (hd : decode bs pc = .ok (.invokevirtual index, 3)) (argsL rest : List Value) (W : Nat) (hM : MetFree l y (head1 [Cond.code y bytes maxY retY] rm) (fun a' U => a' = (.ref a :: argsL).toArray ∧ Z.Warmed39 U.vm ∧ U.heap = h) (fun _ _ _ _ _ => True) (fun _ U o U' => ∃ v L, o = .returned v ∧ OwnQ none h n0 v U'.heap L ∧ FrameEnd U o U' L rm.cells rm.slots)) (N : Fr n0 locs) (hpd : parseMethodDescriptor y.desc = some ⟨ps, rr⟩) (eT : T.heap = h) (pc' : Nat) (k : ∀ (T' : State) (L : List Loc), Stand p l e R s m args below meth c T' (locs ++ L) (cells + rm.cells) (slots + rm.slots) → Fr n0 (locs ++ L) → T'.heap = h → Goes p.tables e below G (T'.setTop (mkF m pc' ls (rest)))) (hy : y.cls ≠ "java/lang/invoke/MethodHandle" ∧ y.cls ≠ "java/lang/invoke/VarHandle" := by decide) (hf : rm.frames + 1 ≤ R.frames := by decide) (hl : W + (maxY + 11) + rm.locals ≤ R.locals := by decide) (hls : ls.size = maxL := by rfl) (hlen : argsL.length = ps.length := by rfl) (hst : stk = argsL.reverse ++ .ref a :: rest := by rfl) (hW : (rest.map fun v => v.category).sum ≤ W := by exact Nat.le_of_eq rfl) (hc : cells + rm.cells ≤ R.cells := by decide) (hs : slots + rm.slots ≤ R.slots := by decide) (hp : pc + 3 = pc' := by rfl) : Goes p.tables e below G (T.setTop (mkF m pc ls stk)) :=
  g_callV C X B.1 B.2.1 (notFace_of_selects (args := #[]) (mvT C.2.1 B.2.2.1)) B.2.2.1 B.2.2.2.1 B.2.2.2.2.1 B.2.2.2.2.2 E hd argsL rest W hM hpd eT pc' (fun v T' L X' hQ => by obtain ⟨rfl, Nq, eq⟩ := hQ; exact k T' L X' (Fr.app N Nq) eq) hy hf hl hls hlen hst hW hc hs hp
theorem bo {y : MethodName} {bytes : ByteArray} {ws : List Cond} {as' : Array Value} {h0 : Heap} {Q : Option Value → Heap → List Loc → Prop} (hplain : plainFor y = true)
    (H : ∀ p e s m below meth c s₁ G, Ctx p Z s m meth c bytes y.cls maxL ret → meth.name = y.name → s.methodNamed? y = some m → Stand p l e R s m as' below meth c s₁ [] 0 0 → s₁.heap = h0 →
      (∀ (v : Option Value) (L : List Loc) (T' : State), Q v T'.heap L → s.WarmedH T'.vm → s.sameButNew ({ T' with vm := s.vm } : State) L R.cells R.slots → G (.returned v) T') →
      Goes p.tables e below G (s₁.setTop (entryFrame m as' maxL))) : OwnMF l Z y bytes maxL ret ws R as' h0 Q := body_of hplain H
theorem boH {EL : List (String × Nat)} {y : MethodName} {bytes : ByteArray} {ws : List Cond} {as' : Array Value} {h0 : Heap} {Q : Option Value → Heap → List Loc → Prop} (hplain : plainFor y = true)
    (H : ∀ p e s m below meth c s₁ G, Ctx p Z (s.setVm s.vm) m meth c bytes y.cls maxL ret → meth.name = y.name → (s.setVm s.vm).methodNamed? y = some m → Stand p l e R (s.setVm s.vm) m as' below meth c s₁ [] 0 0 → s₁.heap = h0 → s.heap = h0 → s.Since s.vm 0 → CHv Z EL s.vm h0 → CHr Z EL s.vm h0 s.vm h0 →
      (∀ (v : Option Value) (L : List Loc) (T' : State), Q v T'.heap L → CHr Z EL s.vm h0 T'.vm T'.heap → ReturnedEndW s (.returned v) T' L R.cells R.slots → G (.returned v) T') →
      Goes p.tables e below G (s₁.setTop (entryFrame m as' maxL))) : OwnMFH l Z EL y bytes maxL ret ws R as' h0 Q := body_ofH hplain H
end Kit
end Jvm.Own

namespace Jvm.Pilot.@@N@@
open Jvm Jvm.ClassFile Sem Op Lib Jvm.Free Jvm.Stand Jvm.LawKit Jvm.RoadKit Jvm.Own Bundle Jvm.Pilot.@@N@@.Jvm.D
set_option maxRecDepth 65536
set_option maxHeartbeats 40000000
abbrev OwnW (a0 : Array Value) (Z : State) : Prop := ∀ d ∈ tables_1, d.before a0 Z = true
variable {l : Launch} {Z : State} {a0 : Array Value} {ws : List Jvm.Cond} {h0 : Heap} {n0 : Nat}
theorem wA (hw : OwnW a0 Z) (i : Nat) {d : Jvm.Cond} (h : tables_1[i]? = some d) : d.before a0 Z = true := hw _ (List.mem_of_getElem? h)
abbrev OFv (Z : State) (h : Heap) (a : Addr) (v : Value) : Prop := Fld Z h a "java/lang/String" "value" "[B" v
abbrev OFc (Z : State) (h : Heap) (a : Addr) : Prop := Fld Z h a "java/lang/String" "coder" "B" (.int (0 : Int32))
abbrev OEs (Z : State) (h : Heap) (a : Addr) : Prop := Exa Z h a "java/lang/String"
abbrev OSc (Z : State) (h : Heap) (x : Int32) : Prop := Sta Z h "java/lang/String" "COMPACT_STRINGS" "Z" (.int x)
abbrev OSf (Z : State) (h : Heap) (x : Value) : Prop := Sta Z h "jdk/internal/util/Preconditions" "SIOOBE_FORMATTER" "Ljava/util/function/BiFunction;" x
def own_ch (b : Int32) : Int32 := nar .char (b &&& 255).toUInt32.toUInt16.toUInt32.toInt32
def own_lat (c : Int32) : Prop := ¬ c < 0 ∧ ¬ 255 < c
theorem own_ch_fin : ∀ n : Fin 256, own_ch (nar .byte (Int32.ofNat n.val).toInt8.toInt32) = Int32.ofNat n.val := by decide +kernel
theorem own_lat_fin {c : Int32} (h : own_lat c) : ∃ n : Fin 256, c = Int32.ofNat n.val := by
  obtain ⟨h1, h2⟩ := h
  have e0 : (0 : Int32).toInt = 0 := by decide
  have e1 : (255 : Int32).toInt = 255 := by decide
  rw [Int32.lt_iff_toInt_lt] at h1 h2
  refine ⟨⟨c.toInt.toNat, by omega⟩, ?_⟩
  rw [← Int32.toInt_inj]
  show c.toInt = (Int32.ofNat c.toInt.toNat).toInt
  rw [Int32.toInt_ofNat_of_lt (by omega)]; omega
theorem own_ch_of {c : Int32} (h : own_lat c) : own_ch (nar .byte c.toInt8.toInt32) = c := by
  obtain ⟨n, rfl⟩ := own_lat_fin h
  exact own_ch_fin n
theorem own_and_lat (x : Int32) : own_lat (x &&& 255) := by
  have e : (x &&& 255 : Int32).toInt = x.toInt % 2 ^ 8 := Jvm.Kit.i32_mask x 255 (k := 8) (by decide) (by decide)
  have e0 : (0 : Int32).toInt = 0 := by decide
  have e1 : (255 : Int32).toInt = 255 := by decide
  refine ⟨?_, ?_⟩ <;> rw [Int32.lt_iff_toInt_lt] <;> omega
theorem own_i2c_fin : ∀ n : Fin 256, (Int32.ofNat n.val).toUInt32.toUInt16.toUInt32.toInt32 = Int32.ofNat n.val := by decide +kernel
theorem own_i2c {c : Int32} (h : own_lat c) : c.toUInt32.toUInt16.toUInt32.toInt32 = c := by
  obtain ⟨n, rfl⟩ := own_lat_fin h
  exact own_i2c_fin n
theorem own_narc {c : Int32} (h : own_lat c) : nar .char c = c := own_i2c h
theorem own_c255 (x : Int32) : own_lat (x &&& 255).toUInt32.toUInt16.toUInt32.toInt32 := by rw [own_i2c (own_and_lat x)]; exact own_and_lat x
theorem own_bs (c : Int32) : nar .char c = c.toUInt32.toUInt16.toUInt32.toInt32 := rfl
theorem own_u16 (u : UInt16) : u.toUInt32.toInt32.toUInt32.toUInt16 = u := by
  show u.toUInt32.toUInt16 = u
  simp
theorem own_narr (b : Int32) : nar .char (own_ch b) = own_ch b := by
  show (b &&& 255).toUInt32.toUInt16.toUInt32.toInt32.toUInt32.toUInt16.toUInt32.toInt32.toUInt32.toUInt16.toUInt32.toInt32 = (b &&& 255).toUInt32.toUInt16.toUInt32.toInt32.toUInt32.toUInt16.toUInt32.toInt32
  rw [own_u16]
theorem own_ne0 {t : Term} {args : Array Value} {s : State} {x k : Int32} (ev : t.eval args s none [] s = some (.int x)) (h : (Jvm.Cond.eq t (.int k)).value args s none s [] = some false) : ¬ x = k := by
  have e2 : (Term.int k).eval args s none [] s = some (.int k) := rfl
  simp only [Cond.value, ev, e2] at h
  simpa using h
def ch (d : Nat) : Int32 := Int32.ofNat (48 + d)
def low (n : Nat) : Nat → List Int32
  | 0 => []
  | j + 1 => ch (n / 10 ^ j % 10) :: low n j
def dg (n : Nat) : Nat := if n < 10 then 1 else if n < 100 then 2 else if n < 1000 then 3 else if n < 10000 then 4 else if n < 100000 then 5 else if n < 1000000 then 6 else if n < 10000000 then 7 else if n < 100000000 then 8 else if n < 1000000000 then 9 else 10
def sgn (v : Int32) : List Int32 := if v < 0 then [45] else []
def decI (v : Int32) : List Int32 := sgn v ++ low v.toInt.natAbs (dg v.toInt.natAbs)
theorem low_length (n j : Nat) : (low n j).length = j := by induction j with
  | zero => rfl
  | succ j ih => simp [low, ih]
theorem low_getD (n j i : Nat) (h : i < j) (d : Int32) : (low n j).getD i d = ch (n / 10 ^ (j - 1 - i) % 10) := by
  induction j generalizing i with
  | zero => omega
  | succ j ih =>
    cases i with
    | zero => simp [low]
    | succ i =>
      have := ih i (by omega)
      rw [show j + 1 - 1 - (i + 1) = j - 1 - i by omega]
      simpa [low] using this
theorem dg_pos (n : Nat) : 1 ≤ dg n ∧ dg n ≤ 10 := by
  unfold dg
  repeat' split
  all_goals omega
theorem dg_le (n j : Nat) (hn : n ≤ 2 ^ 31) (h : 1 ≤ n / 10 ^ j) : j < dg n := by
  have hj : j < 10 := by
    rcases Nat.lt_or_ge j 10 with h' | h'
    · exact h'
    · exfalso
      have : 10 ^ 10 ≤ 10 ^ j := Nat.pow_le_pow_right (by decide) h'
      have h2 : n / 10 ^ j = 0 := Nat.div_eq_of_lt (by omega)
      omega
  have hn2 : n ≤ 2147483648 := hn
  unfold dg
  have hc : j = 0 ∨ j = 1 ∨ j = 2 ∨ j = 3 ∨ j = 4 ∨ j = 5 ∨ j = 6 ∨ j = 7 ∨ j = 8 ∨ j = 9 := by omega
  rcases hc with rfl | rfl | rfl | rfl | rfl | rfl | rfl | rfl | rfl | rfl <;> simp only [Nat.reducePow] at h <;> repeat' split
  all_goals omega
theorem dg_eq (n j : Nat) (hn : n ≤ 2 ^ 31) (h : n / 10 ^ j < 10) (h1 : j = 0 ∨ 1 ≤ n / 10 ^ j) : dg n = j + 1 := by
  have h2 : j < dg n := by
    rcases h1 with rfl | h1
    · exact (dg_pos n).1
    · exact dg_le n j hn h1
  have hj := (dg_pos n).2
  have hn2 : n ≤ 2147483648 := hn
  have hc : j = 0 ∨ j = 1 ∨ j = 2 ∨ j = 3 ∨ j = 4 ∨ j = 5 ∨ j = 6 ∨ j = 7 ∨ j = 8 ∨ j = 9 := by omega
  revert h2
  unfold dg
  rcases hc with rfl | rfl | rfl | rfl | rfl | rfl | rfl | rfl | rfl | rfl <;> simp only [Nat.reducePow] at h h1 <;> repeat' split
  all_goals omega
theorem natAbs_le (v : Int32) : v.toInt.natAbs ≤ 2 ^ 31 := by
  have := Int32.toInt_lt v; have := Int32.le_toInt v; omega
theorem sgn_length (v : Int32) : (sgn v).length ≤ 1 := by unfold sgn; split <;> decide
theorem decI_length (v : Int32) : 1 ≤ (decI v).length ∧ (decI v).length ≤ 11 := by
  unfold decI
  have := sgn_length v; have := dg_pos v.toInt.natAbs
  simp only [List.length_append, low_length]; omega
theorem i_add (a b : Nat) : Int32.ofNat a + Int32.ofNat b = Int32.ofNat (a + b) := (Int32.ofNat_add a b).symm
theorem i_sub (a b : Nat) (h : b ≤ a) : Int32.ofNat a - Int32.ofNat b = Int32.ofNat (a - b) := by
  rw [Int32.sub_eq_iff_eq_add, i_add]; congr 1; omega
theorem i_toInt (a : Nat) (h : a < 2 ^ 31) : (Int32.ofNat a).toInt = a := Int32.toInt_ofNat_of_lt h
theorem i_toNat (a : Nat) (h : a < 2 ^ 31) : (Int32.ofNat a).toNatClampNeg = a := by
  show (Int32.ofNat a).toInt.toNat = a; rw [i_toInt a h]; rfl
theorem i_lt (a b : Nat) (ha : a < 2 ^ 31) (hb : b < 2 ^ 31) : Int32.ofNat a < Int32.ofNat b ↔ a < b := by
  rw [Int32.lt_iff_toInt_lt, i_toInt a ha, i_toInt b hb]; omega
theorem i_nn (a : Nat) (h : a < 2 ^ 31) : ¬ Int32.ofNat a < 0 := by
  rw [Int32.lt_iff_toInt_lt, i_toInt a h]; show ¬ ((a : Int) < 0); omega
theorem i_in (a b : Nat) (ha : a < b) (hb : b < 2 ^ 31) : ¬ Int32.ofNat a < 0 ∧ Int32.ofNat a < Int32.ofNat b := ⟨i_nn a (by omega), (i_lt a b (by omega) hb).mpr ha⟩
theorem i_dec (a : Nat) : Int32.ofNat (a + 1) + Int32.ofInt (-1) = Int32.ofNat a := by
  rw [Int32.ofNat_add, Int32.add_assoc, show Int32.ofNat 1 + Int32.ofInt (-1) = 0 by decide, Int32.add_zero]
def wl (l : List Int32) (a : Nat) (suf : List Int32) : List Value := (l ++ List.replicate a 0 ++ suf).map Value.int
theorem wl_length (l : List Int32) (a : Nat) (suf : List Int32) : (wl l a suf).length = l.length + a + suf.length := by simp [wl]; omega
theorem wl_set (l : List Int32) (a : Nat) (suf : List Int32) (x : Int32) : (wl l (a + 1) suf).set (l.length + a) (.int x) = wl l a (x :: suf) := by
  unfold wl
  rw [← List.map_set]
  congr 1
  rw [List.append_assoc, List.set_append_right _ _ (by omega), List.append_assoc, Nat.add_sub_cancel_left]
  congr 1
  rw [List.replicate_succ', List.append_assoc, List.set_append_right _ _ (by simp)]
  simp
theorem wl_zero (l suf : List Int32) : wl l 0 suf = (l ++ suf).map Value.int := by simp [wl]
theorem wl_pad (l : List Int32) (a : Nat) : wl l a [] = l.map Value.int ++ List.replicate a (.int 0) := by simp [wl]
def ng (n : Nat) : Int32 := Int32.ofInt (-(n : Int))
theorem ng_toInt {n : Nat} (h : n ≤ 2 ^ 31) : (ng n).toInt = -(n : Int) := Int32.toInt_ofInt_of_le (by omega) (by omega)
theorem ng_abs (v : Int32) : (if v < 0 then v else -v) = ng v.toInt.natAbs := by
  have h1 := Int32.toInt_lt v; have h2 := Int32.le_toInt v; have h3 := natAbs_le v
  rw [← Int32.toInt_inj, ng_toInt h3]
  split
  · rename_i h; rw [Int32.lt_iff_toInt_lt] at h; have : v.toInt < 0 := h; omega
  · rename_i h; rw [Int32.lt_iff_toInt_lt] at h; have : ¬ v.toInt < 0 := h
    rw [Int32.toInt_neg, Int.bmod_eq_of_le (by omega) (by omega)]; omega
theorem ng_gt {n : Nat} (h : n ≤ 2 ^ 31) (k : Int32) (c : Nat) (hk : k.toInt = -(c : Int)) : k < ng n ↔ n < c := by
  rw [Int32.lt_iff_toInt_lt, ng_toInt h, hk]; omega
theorem ng_div {n : Nat} (h : n ≤ 2 ^ 31) : ng n / 100 = ng (n / 100) := by
  rw [← Int32.toInt_inj, ng_toInt (by omega), Int32.toInt_div, ng_toInt h]
  show ((-(n : Int)).tdiv 100).bmod (2 ^ 32) = _
  rw [Int.neg_tdiv, Int.tdiv_eq_ediv_of_nonneg (by omega), Int.bmod_eq_of_le (by omega) (by omega)]; omega
theorem ng_rem {n : Nat} (h : n ≤ 2 ^ 31) : ng (n / 100) * 100 - ng n = Int32.ofNat (n % 100) := by
  rw [← Int32.toInt_inj, i_toInt _ (by omega), Int32.toInt_sub, Int32.toInt_mul, ng_toInt h, ng_toInt (by omega)]
  show ((-((n / 100 : Nat) : Int) * 100).bmod (2 ^ 32) - -(n : Int)).bmod (2 ^ 32) = _
  rw [Int.bmod_eq_of_le (n := -((n / 100 : Nat) : Int) * 100) (by omega) (by omega), Int.bmod_eq_of_le (by omega) (by omega)]; omega
theorem ng_neg {n : Nat} (h : n < 2 ^ 31) : -(ng n) = Int32.ofNat n := by
  rw [← Int32.toInt_inj, i_toInt _ h, Int32.toInt_neg, ng_toInt (by omega), Int.bmod_eq_of_le (by omega) (by omega)]; omega
theorem low_two (n j : Nat) : ch (n / 10 ^ j % 100 / 10) :: ch (n / 10 ^ j % 100 % 10) :: low n j = low n (j + 2) := by
  have e : n / 10 ^ (j + 1) = n / 10 ^ j / 10 := by rw [Nat.pow_succ, Nat.div_div_eq_div_mul]
  simp only [low, e]
  congr 2
  · omega
  · congr 1; omega
theorem div_two (n j : Nat) : n / 10 ^ j / 100 = n / 10 ^ (j + 2) := by
  rw [Nat.div_div_eq_div_mul, Nat.pow_add]

theorem own_get {l : List Int32} {j : Nat} {i : Int32} (hi : Int32.ofNat j = i) (hb : j < 2 ^ 31) : (l.map Value.int).getD i.toNatClampNeg (.int 0) = .int (l.getD j 0) := by
  subst hi; rw [i_toNat _ hb]; simp only [List.getD_eq_getElem?_getD, List.getElem?_map]; cases l[j]? <;> rfl
theorem own_in {l : List Int32} {j : Nat} {i : Int32} (hi : Int32.ofNat j = i) (hl : j < l.length) (hb : l.length ≤ 1000) : ¬ i < 0 ∧ i < Int32.ofNat l.length := hi ▸ i_in j l.length hl (by omega)
theorem own_shr0 (x : Int32) : x >>> ((0 : Int32) &&& 31) = x := by
  rw [← Int32.toInt_inj]; simp

def EL : List (String × Nat) := [("java/lang/String", 7), ("com/example/mortise/mortise/core/Problem", 43)]
theorem ef_7r (m : MethodId) (a1 : Addr) : entryFrame m #[(.ref a1)] 1 = mkF m 0 #[rv a1] [] := by first | (simp [entryFrame, mkF, argsToLocals, Value.category, iv, rv, jv, nv, uu, sd]; done) | rfl
theorem d7_0 : decode jdk_30_method_1_code 0 = .ok (.aload_n 0, 1) := by decide +kernel
theorem d7_1 : decode jdk_30_method_1_code 1 = .ok (.invokespecial 1, 3) := by decide +kernel
theorem w_37 (hw : OwnW a0 Z) : Cond.before (.methodLink "java/lang/Record" (1 : Nat) ⟨"java/lang/Object", "<init>", "()V"⟩) a0 Z = true := wA hw 37 rfl
theorem w_20 (hw : OwnW a0 Z) : Cond.before (.instanceMethod ⟨"java/lang/Object", "<init>", "()V"⟩) a0 Z = true := wA hw 20 rfl
theorem w_21 (hw : OwnW a0 Z) : Cond.before (.code ⟨"java/lang/Object", "<init>", "()V"⟩ object_method_1_code (1 : Nat) (Option.none : Option Jvm.ClassFile.FieldType)) a0 Z = true := wA hw 21 rfl
theorem d7_4 : decode jdk_30_method_1_code 4 = .ok (.return_, 1) := by decide +kernel
abbrev y7 : MethodName := (⟨"java/lang/Record", "<init>", "()V"⟩ : MethodName)
theorem pn_7 : plainName "java/lang/Record" = true := by first | (simp [plainName, overriddenIn]; done) | decide +kernel
theorem rm7 {o1 : Addr} (hw : OwnW a0 Z) (Z0 : n0 ≤ h0.size) : OwnMF l Z y7 jdk_30_method_1_code 1 none ws ⟨1, 0, 0, 12⟩ #[(.ref o1)] h0 (OwnQ none h0 n0) := by
  refine bo (plainFor_of_name pn_7) ?_
  intro p e s m below meth c T0 G C hnm hnamed X0 e0 K
  have N0 := Fr.nil n0
  refine Goes.to (congrArg T0.setTop (ef_7r m o1)) ?_
  refine g_aloadN C X0 d7_0 1 rfl rfl ?_
  refine g_initO C X0 (w_37 hw) (w_20 hw) (w_21 hw) e0 rfl d7_1 4 (by decide) (W := 0) (Nat.le_of_eq rfl) (by decide) (fun T1 X1 e1 => ?_)
  exact g_retV C X1 K d7_4 (by decide) (by decide) e1 ⟨rfl, N0, rfl⟩
theorem ef_6rriir (m : MethodId) (a1 : Addr) (a2 : Addr) (a3 : Int32) (a4 : Int32) (a5 : Addr) : entryFrame m #[(.ref a1), (.ref a2), (.int a3), (.int a4), (.ref a5)] 5 = mkF m 0 #[rv a1, rv a2, iv a3, iv a4, rv a5] [] := by first | (simp [entryFrame, mkF, argsToLocals, Value.category, iv, rv, jv, nv, uu, sd]; done) | rfl
theorem d6_0 : decode prog_7_method_1_code 0 = .ok (.aload_n 0, 1) := by decide +kernel
theorem d6_1 : decode prog_7_method_1_code 1 = .ok (.invokespecial 1, 3) := by decide +kernel
theorem w_36 (hw : OwnW a0 Z) : Cond.before (.code ⟨"java/lang/Record", "<init>", "()V"⟩ jdk_30_method_1_code (1 : Nat) (Option.none : Option Jvm.ClassFile.FieldType)) a0 Z = true := wA hw 36 rfl
theorem w_35 (hw : OwnW a0 Z) : Cond.before (.initialized "java/lang/Record") a0 Z = true := wA hw 35 rfl
theorem w_32 (hw : OwnW a0 Z) : Cond.before (.methodLink "com/example/mortise/mortise/core/Problem" (1 : Nat) ⟨"java/lang/Record", "<init>", "()V"⟩) a0 Z = true := wA hw 32 rfl
theorem pd_0 : parseMethodDescriptor "()V" = some ⟨[], none⟩ := by decide +kernel
theorem w_33 (hw : OwnW a0 Z) : Cond.before (.instanceMethod ⟨"java/lang/Record", "<init>", "()V"⟩) a0 Z = true := wA hw 33 rfl
theorem d6_4 : decode prog_7_method_1_code 4 = .ok (.aload_n 0, 1) := by decide +kernel
theorem d6_5 : decode prog_7_method_1_code 5 = .ok (.aload_n 1, 1) := by decide +kernel
theorem d6_6 : decode prog_7_method_1_code 6 = .ok (.putfield 7, 3) := by decide +kernel
theorem w_39 (hw : OwnW a0 Z) : Cond.before (.laysFinal "com/example/mortise/mortise/core/Problem" "com/example/mortise/mortise/core/Problem" "path" "Ljava/lang/String;") a0 Z = true := wA hw 39 rfl
theorem w_38 (hw : OwnW a0 Z) : Cond.before (.fieldLink "com/example/mortise/mortise/core/Problem" (7 : Nat) "com/example/mortise/mortise/core/Problem" "path" "Ljava/lang/String;") a0 Z = true := wA hw 38 rfl
theorem w_27 (hw : OwnW a0 Z) : Cond.before (.instantiable "com/example/mortise/mortise/core/Problem" (4 : Nat)) a0 Z = true := wA hw 27 rfl
theorem w_41 (hw : OwnW a0 Z) : Cond.before (.laysFinal "com/example/mortise/mortise/core/Problem" "com/example/mortise/mortise/core/Problem" "line" "I") a0 Z = true := wA hw 41 rfl
theorem w_43 (hw : OwnW a0 Z) : Cond.before (.laysFinal "com/example/mortise/mortise/core/Problem" "com/example/mortise/mortise/core/Problem" "column" "I") a0 Z = true := wA hw 43 rfl
theorem w_45 (hw : OwnW a0 Z) : Cond.before (.laysFinal "com/example/mortise/mortise/core/Problem" "com/example/mortise/mortise/core/Problem" "message" "Ljava/lang/String;") a0 Z = true := wA hw 45 rfl
theorem d6_9 : decode prog_7_method_1_code 9 = .ok (.aload_n 0, 1) := by decide +kernel
theorem d6_10 : decode prog_7_method_1_code 10 = .ok (.iload_n 2, 1) := by decide +kernel
theorem d6_11 : decode prog_7_method_1_code 11 = .ok (.putfield 13, 3) := by decide +kernel
theorem w_40 (hw : OwnW a0 Z) : Cond.before (.fieldLink "com/example/mortise/mortise/core/Problem" (13 : Nat) "com/example/mortise/mortise/core/Problem" "line" "I") a0 Z = true := wA hw 40 rfl
theorem d6_14 : decode prog_7_method_1_code 14 = .ok (.aload_n 0, 1) := by decide +kernel
theorem d6_15 : decode prog_7_method_1_code 15 = .ok (.iload_n 3, 1) := by decide +kernel
theorem d6_16 : decode prog_7_method_1_code 16 = .ok (.putfield 17, 3) := by decide +kernel
theorem w_42 (hw : OwnW a0 Z) : Cond.before (.fieldLink "com/example/mortise/mortise/core/Problem" (17 : Nat) "com/example/mortise/mortise/core/Problem" "column" "I") a0 Z = true := wA hw 42 rfl
theorem d6_19 : decode prog_7_method_1_code 19 = .ok (.aload_n 0, 1) := by decide +kernel
theorem d6_20 : decode prog_7_method_1_code 20 = .ok (.aload 4, 2) := by decide +kernel
theorem d6_22 : decode prog_7_method_1_code 22 = .ok (.putfield 20, 3) := by decide +kernel
theorem w_44 (hw : OwnW a0 Z) : Cond.before (.fieldLink "com/example/mortise/mortise/core/Problem" (20 : Nat) "com/example/mortise/mortise/core/Problem" "message" "Ljava/lang/String;") a0 Z = true := wA hw 44 rfl
theorem d6_25 : decode prog_7_method_1_code 25 = .ok (.return_, 1) := by decide +kernel
def Q6 (Z : State) (o1 : Addr) (o2 : Addr) (x1 : Int32) (x2 : Int32) (o3 : Addr) (h0 : Heap) (n0 : Nat) (v : Option Value) (h : Heap) (L : List Loc) : Prop := v = none ∧ Fr n0 L ∧ Keep h0 h [o1] ∧ Exa Z h o1 "com/example/mortise/mortise/core/Problem" ∧ Fld Z h o1 "com/example/mortise/mortise/core/Problem" "path" "Ljava/lang/String;" (.ref o2) ∧ Fld Z h o1 "com/example/mortise/mortise/core/Problem" "line" "I" (.int x1) ∧ Fld Z h o1 "com/example/mortise/mortise/core/Problem" "column" "I" (.int x2)
abbrev y6 : MethodName := (⟨"com/example/mortise/mortise/core/Problem", "<init>", "(Ljava/lang/String;IILjava/lang/String;)V"⟩ : MethodName)
theorem pn_6 : plainName "com/example/mortise/mortise/core/Problem" = true := by first | (simp [plainName, overriddenIn]; done) | decide +kernel
theorem rm6 {o1 o2 o3 : Addr} {x1 x2 : Int32} (hw : OwnW a0 Z) (Z0 : n0 ≤ h0.size) (F0 : Exa Z h0 o1 "com/example/mortise/mortise/core/Problem") (F1 : Fld Z h0 o1 "com/example/mortise/mortise/core/Problem" "path" "Ljava/lang/String;" .null) (F2 : Fld Z h0 o1 "com/example/mortise/mortise/core/Problem" "line" "I" (.int 0)) (F3 : Fld Z h0 o1 "com/example/mortise/mortise/core/Problem" "column" "I" (.int 0)) (F4 : Fld Z h0 o1 "com/example/mortise/mortise/core/Problem" "message" "Ljava/lang/String;" .null) (gn_o1 : n0 ≤ o1) : OwnMF l Z y6 prog_7_method_1_code 5 none ws ⟨2, 0, 0, 24⟩ #[(.ref o1), (.ref o2), (.int x1), (.int x2), (.ref o3)] h0 (Q6 Z o1 o2 x1 x2 o3 h0 n0) := by
  refine bo (plainFor_of_name pn_6) ?_
  intro p e s m below meth c T0 G C hnm hnamed X0 e0 K
  have N0 := Fr.nil n0
  refine Goes.to (congrArg T0.setTop (ef_6rriir m o1 o2 x1 x2 o3)) ?_
  have K00 := Keep.refl h0 [o1]
  refine g_aloadN C X0 d6_0 1 rfl rfl ?_
  refine g_callI C X0 rfl (w_32 hw) (w_33 hw) (w_35 hw) (w_36 hw) d6_1 [] [] 0 (rm7 hw Z0 ) pd_0 e0 4 (fun u1 T1 L1 X1 hQ1 => ?_)
  obtain ⟨rfl, Nq1, eq1⟩ := hQ1
  have N1 := Fr.app N0 Nq1
  refine ret0 ?_
  refine g_aloadN C X1 d6_4 5 rfl rfl ?_
  refine g_aloadN C X1 d6_5 6 rfl rfl ?_
  refine g_putF C X1 (w_38 hw) Via.refl eq1 F1 F0 (Or.inr ⟨(w_39 hw), rfl, hnm⟩) (w_27 hw) (ty := (.object "java/lang/String")) (by decide) rfl rfl d6_6 9 (fun T2 h2 X2 e2 W2 => ?_)
  have f3 := F0.wr W2
  have f4 := F1.same W2
  have f5 := F2.other W2 (Or.inr (slot_ne (Or.inr (w_41 hw)) (Or.inr (w_39 hw)) (by decide) (t := .int) (t' := (.object "java/lang/String")) (by decide) (by decide)))
  have f6 := F3.other W2 (Or.inr (slot_ne (Or.inr (w_43 hw)) (Or.inr (w_39 hw)) (by decide) (t := .int) (t' := (.object "java/lang/String")) (by decide) (by decide)))
  have f7 := F4.other W2 (Or.inr (slot_ne (Or.inr (w_45 hw)) (Or.inr (w_39 hw)) (by decide) (t := (.object "java/lang/String")) (t' := (.object "java/lang/String")) (by decide) (by decide)))
  have N2 := Fr.snoc X2 N1 gn_o1
  have K2 := K00.wr W2 (Or.inl (List.mem_of_getElem? (i := 0) rfl))
  refine g_aloadN C X2 d6_9 10 rfl rfl ?_
  refine g_iloadN C X2 d6_10 11 rfl ?_
  refine g_putF C X2 (w_40 hw) Via.refl e2 f5 f3 (Or.inr ⟨(w_41 hw), rfl, hnm⟩) (w_27 hw) (ty := .int) (by decide) rfl rfl d6_11 14 (fun T8 h8 X8 e8 W8 => ?_)
  have f9 := f3.wr W8
  have f10 := f4.other W8 (Or.inr (slot_ne (Or.inr (w_39 hw)) (Or.inr (w_41 hw)) (by decide) (t := (.object "java/lang/String")) (t' := .int) (by decide) (by decide)))
  have f11 := f5.same W8
  have f12 := f6.other W8 (Or.inr (slot_ne (Or.inr (w_43 hw)) (Or.inr (w_41 hw)) (by decide) (t := .int) (t' := .int) (by decide) (by decide)))
  have f13 := f7.other W8 (Or.inr (slot_ne (Or.inr (w_45 hw)) (Or.inr (w_41 hw)) (by decide) (t := (.object "java/lang/String")) (t' := .int) (by decide) (by decide)))
  have N8 := Fr.snoc X8 N2 gn_o1
  have K8 := K2.wr W8 (Or.inl (List.mem_of_getElem? (i := 0) rfl))
  refine g_aloadN C X8 d6_14 15 rfl rfl ?_
  refine g_iloadN C X8 d6_15 16 rfl ?_
  refine g_putF C X8 (w_42 hw) Via.refl e8 f12 f9 (Or.inr ⟨(w_43 hw), rfl, hnm⟩) (w_27 hw) (ty := .int) (by decide) rfl rfl d6_16 19 (fun T14 h14 X14 e14 W14 => ?_)
  have f15 := f9.wr W14
  have f16 := f10.other W14 (Or.inr (slot_ne (Or.inr (w_39 hw)) (Or.inr (w_43 hw)) (by decide) (t := (.object "java/lang/String")) (t' := .int) (by decide) (by decide)))
  have f17 := f11.other W14 (Or.inr (slot_ne (Or.inr (w_41 hw)) (Or.inr (w_43 hw)) (by decide) (t := .int) (t' := .int) (by decide) (by decide)))
  have f18 := f12.same W14
  have f19 := f13.other W14 (Or.inr (slot_ne (Or.inr (w_45 hw)) (Or.inr (w_43 hw)) (by decide) (t := (.object "java/lang/String")) (t' := .int) (by decide) (by decide)))
  have N14 := Fr.snoc X14 N8 gn_o1
  have K14 := K8.wr W14 (Or.inl (List.mem_of_getElem? (i := 0) rfl))
  refine g_aloadN C X14 d6_19 20 rfl rfl ?_
  refine g_aload C X14 d6_20 22 rfl rfl ?_
  refine g_putF C X14 (w_44 hw) Via.refl e14 f19 f15 (Or.inr ⟨(w_45 hw), rfl, hnm⟩) (w_27 hw) (ty := (.object "java/lang/String")) (by decide) rfl rfl d6_22 25 (fun T20 h20 X20 e20 W20 => ?_)
  have f21 := f15.wr W20
  have f22 := f16.other W20 (Or.inr (slot_ne (Or.inr (w_39 hw)) (Or.inr (w_45 hw)) (by decide) (t := (.object "java/lang/String")) (t' := (.object "java/lang/String")) (by decide) (by decide)))
  have f23 := f17.other W20 (Or.inr (slot_ne (Or.inr (w_41 hw)) (Or.inr (w_45 hw)) (by decide) (t := .int) (t' := (.object "java/lang/String")) (by decide) (by decide)))
  have f24 := f18.other W20 (Or.inr (slot_ne (Or.inr (w_43 hw)) (Or.inr (w_45 hw)) (by decide) (t := .int) (t' := (.object "java/lang/String")) (by decide) (by decide)))
  have N20 := Fr.snoc X20 N14 gn_o1
  have K20 := K14.wr W20 (Or.inl (List.mem_of_getElem? (i := 0) rfl))
  exact g_retV C X20 K d6_25 (by decide) (by decide) e20 ⟨rfl, N20, K20, f21, f22, f23, f24⟩
theorem ef_6rniir (m : MethodId) (a1 : Addr) (a3 : Int32) (a4 : Int32) (a5 : Addr) : entryFrame m #[(.ref a1), .null, (.int a3), (.int a4), (.ref a5)] 5 = mkF m 0 #[rv a1, nv, iv a3, iv a4, rv a5] [] := by first | (simp [entryFrame, mkF, argsToLocals, Value.category, iv, rv, jv, nv, uu, sd]; done) | rfl
def Q6_n (Z : State) (o1 : Addr) (x1 : Int32) (x2 : Int32) (o3 : Addr) (h0 : Heap) (n0 : Nat) (v : Option Value) (h : Heap) (L : List Loc) : Prop := v = none ∧ Fr n0 L ∧ Keep h0 h [o1] ∧ Exa Z h o1 "com/example/mortise/mortise/core/Problem" ∧ Fld Z h o1 "com/example/mortise/mortise/core/Problem" "path" "Ljava/lang/String;" .null ∧ Fld Z h o1 "com/example/mortise/mortise/core/Problem" "line" "I" (.int x1) ∧ Fld Z h o1 "com/example/mortise/mortise/core/Problem" "column" "I" (.int x2)
theorem rm6_n {o1 o3 : Addr} {x1 x2 : Int32} (hw : OwnW a0 Z) (Z0 : n0 ≤ h0.size) (F0 : Exa Z h0 o1 "com/example/mortise/mortise/core/Problem") (F1 : Fld Z h0 o1 "com/example/mortise/mortise/core/Problem" "path" "Ljava/lang/String;" .null) (F2 : Fld Z h0 o1 "com/example/mortise/mortise/core/Problem" "line" "I" (.int 0)) (F3 : Fld Z h0 o1 "com/example/mortise/mortise/core/Problem" "column" "I" (.int 0)) (F4 : Fld Z h0 o1 "com/example/mortise/mortise/core/Problem" "message" "Ljava/lang/String;" .null) (gn_o1 : n0 ≤ o1) : OwnMF l Z y6 prog_7_method_1_code 5 none ws ⟨2, 0, 0, 24⟩ #[(.ref o1), .null, (.int x1), (.int x2), (.ref o3)] h0 (Q6_n Z o1 x1 x2 o3 h0 n0) := by
  refine bo (plainFor_of_name pn_6) ?_
  intro p e s m below meth c T0 G C hnm hnamed X0 e0 K
  have N0 := Fr.nil n0
  refine Goes.to (congrArg T0.setTop (ef_6rniir m o1 x1 x2 o3)) ?_
  have K00 := Keep.refl h0 [o1]
  refine g_aloadN C X0 d6_0 1 rfl rfl ?_
  refine g_callI C X0 rfl (w_32 hw) (w_33 hw) (w_35 hw) (w_36 hw) d6_1 [] [] 0 (rm7 hw Z0 ) pd_0 e0 4 (fun u1 T1 L1 X1 hQ1 => ?_)
  obtain ⟨rfl, Nq1, eq1⟩ := hQ1
  have N1 := Fr.app N0 Nq1
  refine ret0 ?_
  refine g_aloadN C X1 d6_4 5 rfl rfl ?_
  refine g_aloadN C X1 d6_5 6 rfl rfl ?_
  refine g_putF C X1 (w_38 hw) Via.refl eq1 F1 F0 (Or.inr ⟨(w_39 hw), rfl, hnm⟩) (w_27 hw) (ty := (.object "java/lang/String")) (by decide) rfl rfl d6_6 9 (fun T2 h2 X2 e2 W2 => ?_)
  have f3 := F0.wr W2
  have f4 := F1.same W2
  have f5 := F2.other W2 (Or.inr (slot_ne (Or.inr (w_41 hw)) (Or.inr (w_39 hw)) (by decide) (t := .int) (t' := (.object "java/lang/String")) (by decide) (by decide)))
  have f6 := F3.other W2 (Or.inr (slot_ne (Or.inr (w_43 hw)) (Or.inr (w_39 hw)) (by decide) (t := .int) (t' := (.object "java/lang/String")) (by decide) (by decide)))
  have f7 := F4.other W2 (Or.inr (slot_ne (Or.inr (w_45 hw)) (Or.inr (w_39 hw)) (by decide) (t := (.object "java/lang/String")) (t' := (.object "java/lang/String")) (by decide) (by decide)))
  have N2 := Fr.snoc X2 N1 gn_o1
  have K2 := K00.wr W2 (Or.inl (List.mem_of_getElem? (i := 0) rfl))
  refine g_aloadN C X2 d6_9 10 rfl rfl ?_
  refine g_iloadN C X2 d6_10 11 rfl ?_
  refine g_putF C X2 (w_40 hw) Via.refl e2 f5 f3 (Or.inr ⟨(w_41 hw), rfl, hnm⟩) (w_27 hw) (ty := .int) (by decide) rfl rfl d6_11 14 (fun T8 h8 X8 e8 W8 => ?_)
  have f9 := f3.wr W8
  have f10 := f4.other W8 (Or.inr (slot_ne (Or.inr (w_39 hw)) (Or.inr (w_41 hw)) (by decide) (t := (.object "java/lang/String")) (t' := .int) (by decide) (by decide)))
  have f11 := f5.same W8
  have f12 := f6.other W8 (Or.inr (slot_ne (Or.inr (w_43 hw)) (Or.inr (w_41 hw)) (by decide) (t := .int) (t' := .int) (by decide) (by decide)))
  have f13 := f7.other W8 (Or.inr (slot_ne (Or.inr (w_45 hw)) (Or.inr (w_41 hw)) (by decide) (t := (.object "java/lang/String")) (t' := .int) (by decide) (by decide)))
  have N8 := Fr.snoc X8 N2 gn_o1
  have K8 := K2.wr W8 (Or.inl (List.mem_of_getElem? (i := 0) rfl))
  refine g_aloadN C X8 d6_14 15 rfl rfl ?_
  refine g_iloadN C X8 d6_15 16 rfl ?_
  refine g_putF C X8 (w_42 hw) Via.refl e8 f12 f9 (Or.inr ⟨(w_43 hw), rfl, hnm⟩) (w_27 hw) (ty := .int) (by decide) rfl rfl d6_16 19 (fun T14 h14 X14 e14 W14 => ?_)
  have f15 := f9.wr W14
  have f16 := f10.other W14 (Or.inr (slot_ne (Or.inr (w_39 hw)) (Or.inr (w_43 hw)) (by decide) (t := (.object "java/lang/String")) (t' := .int) (by decide) (by decide)))
  have f17 := f11.other W14 (Or.inr (slot_ne (Or.inr (w_41 hw)) (Or.inr (w_43 hw)) (by decide) (t := .int) (t' := .int) (by decide) (by decide)))
  have f18 := f12.same W14
  have f19 := f13.other W14 (Or.inr (slot_ne (Or.inr (w_45 hw)) (Or.inr (w_43 hw)) (by decide) (t := (.object "java/lang/String")) (t' := .int) (by decide) (by decide)))
  have N14 := Fr.snoc X14 N8 gn_o1
  have K14 := K8.wr W14 (Or.inl (List.mem_of_getElem? (i := 0) rfl))
  refine g_aloadN C X14 d6_19 20 rfl rfl ?_
  refine g_aload C X14 d6_20 22 rfl rfl ?_
  refine g_putF C X14 (w_44 hw) Via.refl e14 f19 f15 (Or.inr ⟨(w_45 hw), rfl, hnm⟩) (w_27 hw) (ty := (.object "java/lang/String")) (by decide) rfl rfl d6_22 25 (fun T20 h20 X20 e20 W20 => ?_)
  have f21 := f15.wr W20
  have f22 := f16.other W20 (Or.inr (slot_ne (Or.inr (w_39 hw)) (Or.inr (w_45 hw)) (by decide) (t := (.object "java/lang/String")) (t' := (.object "java/lang/String")) (by decide) (by decide)))
  have f23 := f17.other W20 (Or.inr (slot_ne (Or.inr (w_41 hw)) (Or.inr (w_45 hw)) (by decide) (t := .int) (t' := (.object "java/lang/String")) (by decide) (by decide)))
  have f24 := f18.other W20 (Or.inr (slot_ne (Or.inr (w_43 hw)) (Or.inr (w_45 hw)) (by decide) (t := .int) (t' := (.object "java/lang/String")) (by decide) (by decide)))
  have N20 := Fr.snoc X20 N14 gn_o1
  have K20 := K14.wr W20 (Or.inl (List.mem_of_getElem? (i := 0) rfl))
  exact g_retV C X20 K d6_25 (by decide) (by decide) e20 ⟨rfl, N20, K20, f21, f22, f23, f24⟩
theorem ef_12ri (m : MethodId) (a1 : Addr) (a2 : Int32) : entryFrame m #[(.ref a1), (.int a2)] 2 = mkF m 0 #[rv a1, iv a2] [] := by first | (simp [entryFrame, mkF, argsToLocals, Value.category, iv, rv, jv, nv, uu, sd]; done) | rfl
theorem d12_0 : decode jdk_68_method_2_code 0 = .ok (.aload_n 0, 1) := by decide +kernel
theorem d12_1 : decode jdk_68_method_2_code 1 = .ok (.invokespecial 3, 3) := by decide +kernel
theorem w_74 (hw : OwnW a0 Z) : Cond.before (.methodLink "java/lang/AbstractStringBuilder" (3 : Nat) ⟨"java/lang/Object", "<init>", "()V"⟩) a0 Z = true := wA hw 74 rfl
theorem d12_4 : decode jdk_68_method_2_code 4 = .ok (.getstatic 18, 3) := by decide +kernel
theorem w_75 (hw : OwnW a0 Z) : Cond.before (.fieldLink "java/lang/AbstractStringBuilder" (18 : Nat) "java/lang/String" "COMPACT_STRINGS" "Z") a0 Z = true := wA hw 75 rfl
theorem d12_7 : decode jdk_68_method_2_code 7 = .ok (.ifCond .eq 18, 3) := by decide +kernel
theorem d12_10 : decode jdk_68_method_2_code 10 = .ok (.aload_n 0, 1) := by decide +kernel
theorem d12_11 : decode jdk_68_method_2_code 11 = .ok (.iload_n 1, 1) := by decide +kernel
theorem d12_12 : decode jdk_68_method_2_code 12 = .ok (.newarray .byte, 2) := by decide +kernel
theorem w_14 (hw : OwnW a0 Z) : Cond.before (.arrayClass Jvm.ClassFile.FieldType.byte) a0 Z = true := wA hw 14 rfl
theorem d12_14 : decode jdk_68_method_2_code 14 = .ok (.putfield 15, 3) := by decide +kernel
theorem w_77 (hw : OwnW a0 Z) : Cond.before (.lays "java/lang/StringBuilder" "java/lang/AbstractStringBuilder" "value" "[B") a0 Z = true := wA hw 77 rfl
theorem w_76 (hw : OwnW a0 Z) : Cond.before (.fieldLink "java/lang/AbstractStringBuilder" (15 : Nat) "java/lang/AbstractStringBuilder" "value" "[B") a0 Z = true := wA hw 76 rfl
theorem w_63 (hw : OwnW a0 Z) : Cond.before (.instantiable "java/lang/StringBuilder" (4 : Nat)) a0 Z = true := wA hw 63 rfl
theorem w_79 (hw : OwnW a0 Z) : Cond.before (.lays "java/lang/StringBuilder" "java/lang/AbstractStringBuilder" "coder" "B") a0 Z = true := wA hw 79 rfl
theorem w_101 (hw : OwnW a0 Z) : Cond.before (.lays "java/lang/StringBuilder" "java/lang/AbstractStringBuilder" "count" "I") a0 Z = true := wA hw 101 rfl
theorem d12_17 : decode jdk_68_method_2_code 17 = .ok (.aload_n 0, 1) := by decide +kernel
theorem d12_18 : decode jdk_68_method_2_code 18 = .ok (.iconst 0, 1) := by decide +kernel
theorem d12_19 : decode jdk_68_method_2_code 19 = .ok (.putfield 22, 3) := by decide +kernel
theorem w_78 (hw : OwnW a0 Z) : Cond.before (.fieldLink "java/lang/AbstractStringBuilder" (22 : Nat) "java/lang/AbstractStringBuilder" "coder" "B") a0 Z = true := wA hw 78 rfl
theorem d12_22 : decode jdk_68_method_2_code 22 = .ok (.goto 16, 3) := by decide +kernel
theorem d12_38 : decode jdk_68_method_2_code 38 = .ok (.return_, 1) := by decide +kernel
def Q12 (Z : State) (o1 : Addr) (cs1 : Int32) (h0 : Heap) (n0 : Nat) (v : Option Value) (h : Heap) (L : List Loc) : Prop := ∃ (o3 : Addr) (kd3 : ClassId), v = none ∧ Fr n0 L ∧ h0.size ≤ o3 ∧ Keep h0 h [o1] ∧ Fld Z h o1 "java/lang/AbstractStringBuilder" "value" "[B" (.ref o3) ∧ Fld Z h o1 "java/lang/AbstractStringBuilder" "coder" "B" (.int 0) ∧ Fld Z h o1 "java/lang/AbstractStringBuilder" "count" "I" (.int (Int32.ofNat ([] : List Int32).length)) ∧ Arv Z h o3 kd3 .byte (Int32.ofNat 16) (([] : List Int32).map Value.int) (.int 0) ∧ Exa Z h o3 "[B"
abbrev y12 : MethodName := (⟨"java/lang/AbstractStringBuilder", "<init>", "(I)V"⟩ : MethodName)
theorem pn_12 : plainName "java/lang/AbstractStringBuilder" = true := by first | (simp [plainName, overriddenIn]; done) | decide +kernel
theorem rm12 {o1 : Addr} {cs1 : Int32} (hw : OwnW a0 Z) (Z0 : n0 ≤ h0.size) (F0 : Exa Z h0 o1 "java/lang/StringBuilder") (F1 : Fld Z h0 o1 "java/lang/AbstractStringBuilder" "value" "[B" .null) (F2 : Fld Z h0 o1 "java/lang/AbstractStringBuilder" "coder" "B" (.int 0)) (F3 : Fld Z h0 o1 "java/lang/AbstractStringBuilder" "count" "I" (.int 0)) (F4 : OSc Z h0 cs1) (gn_o1 : n0 ≤ o1) (hcs : ¬ cs1 = (0 : Int32)) : OwnMF l Z y12 jdk_68_method_2_code 2 none ws ⟨1, 1, 16, 12⟩ #[(.ref o1), (.int 16)] h0 (Q12 Z o1 cs1 h0 n0) := by
  refine bo (plainFor_of_name pn_12) ?_
  intro p e s m below meth c T0 G C hnm hnamed X0 e0 K
  have N0 := Fr.nil n0
  refine Goes.to (congrArg T0.setTop (ef_12ri m o1 (16 : Int32))) ?_
  have K00 := Keep.refl h0 [o1]
  refine g_aloadN C X0 d12_0 1 rfl rfl ?_
  refine g_initO C X0 (w_74 hw) (w_20 hw) (w_21 hw) e0 rfl d12_1 4 (by decide) (W := 0) (Nat.le_of_eq rfl) (by decide) (fun T1 X1 e1 => ?_)
  refine g_getS C X1 (w_75 hw) Via.refl e1 F4 d12_4 7 (fun T2 X2 e2 => ?_)
  refine g_if_eq C X2 d12_7 25 10 (fun hc7 => absurd hc7 hcs) (fun hc7 => ?_)
  refine g_aloadN C X2 d12_10 11 rfl rfl ?_
  refine g_iloadN C X2 d12_11 12 rfl ?_
  refine g_newAE (aty := .byte) (n := (16 : Int32)) C X2 (cap := 16) (w_14 hw) rfl e2 d12_12 14 (by decide) (by decide) (by decide) (by decide) (by decide) (fun T3 h3 b3 ki3 X3 e3 g3 E3 A3 U3 => ?_)
  have n4 : o1 ≠ b3 := Nat.ne_of_lt (Nat.lt_of_lt_of_eq F0.lt g3.symm)
  have f5 := F0.ext E3
  have f6 := F1.ext E3
  have f7 := F2.ext E3
  have f8 := F3.ext E3
  have sz_b3 : h0.size ≤ b3 := Nat.le_trans K00.1 (Nat.le_of_eq g3.symm)
  have K3 := K00.ext E3
  have f10 : Arv Z h3 b3 ki3 .byte (Int32.ofNat 16) (([] : List Int32).map Value.int) (.int 0) := A3
  refine g_putF C X3 (w_76 hw) Via.refl e3 f6 f5 (Or.inl (w_77 hw)) (w_63 hw) (ty := (.array .byte)) (by decide) rfl rfl d12_14 17 (fun T11 h11 X11 e11 W11 => ?_)
  have f12 := f5.wr W11
  have f13 := f6.same W11
  have f14 := f7.other W11 (Or.inr (slot_ne (Or.inl (w_79 hw)) (Or.inl (w_77 hw)) (by decide) (t := .byte) (t' := (.array .byte)) (by decide) (by decide)))
  have f15 := f8.other W11 (Or.inr (slot_ne (Or.inl (w_101 hw)) (Or.inl (w_77 hw)) (by decide) (t := .int) (t' := (.array .byte)) (by decide) (by decide)))
  have f17 := f10.other W11 (Ne.symm n4)
  have f18 := U3.wr W11
  have N11 := Fr.snoc X11 N0 gn_o1
  have K11 := K3.wr W11 (Or.inl (List.mem_of_getElem? (i := 0) rfl))
  refine g_aloadN C X11 d12_17 18 rfl rfl ?_
  refine g_iconst C X11 d12_18 19 (v := 0) rfl ?_
  refine g_putFN C X11 (w_78 hw) Via.refl e11 f14 f12 (Or.inl (w_79 hw)) (w_63 hw) (ty := .byte) (by decide) (v' := (.int 0)) (by decide) (by decide) d12_19 22 (fun T19 h19 X19 e19 W19 => ?_)
  have f21 := f13.other W19 (Or.inr (slot_ne (Or.inl (w_77 hw)) (Or.inl (w_79 hw)) (by decide) (t := (.array .byte)) (t' := .byte) (by decide) (by decide)))
  have f22 := f14.same W19
  have f23 := f15.other W19 (Or.inr (slot_ne (Or.inl (w_101 hw)) (Or.inl (w_79 hw)) (by decide) (t := .int) (t' := .byte) (by decide) (by decide)))
  have f25 := f17.other W19 (Ne.symm n4)
  have f26 := f18.wr W19
  have N19 := Fr.snoc X19 N11 gn_o1
  have K19 := K11.wr W19 (Or.inl (List.mem_of_getElem? (i := 0) rfl))
  refine g_goto C X19 d12_22 38 ?_
  exact g_retV C X19 K d12_38 (by decide) (by decide) e19 ⟨b3, ki3, rfl, N19, sz_b3, K19, f21, f22, f23, f25, f26⟩
theorem ef_11r (m : MethodId) (a1 : Addr) : entryFrame m #[(.ref a1)] 1 = mkF m 0 #[rv a1] [] := by first | (simp [entryFrame, mkF, argsToLocals, Value.category, iv, rv, jv, nv, uu, sd]; done) | rfl
theorem d11_0 : decode jdk_67_method_1_code 0 = .ok (.aload_n 0, 1) := by decide +kernel
theorem d11_1 : decode jdk_67_method_1_code 1 = .ok (.bipush 16, 2) := by decide +kernel
theorem d11_3 : decode jdk_67_method_1_code 3 = .ok (.invokespecial 1, 3) := by decide +kernel
theorem w_73 (hw : OwnW a0 Z) : Cond.before (.code ⟨"java/lang/AbstractStringBuilder", "<init>", "(I)V"⟩ jdk_68_method_2_code (2 : Nat) (Option.none : Option Jvm.ClassFile.FieldType)) a0 Z = true := wA hw 73 rfl
theorem w_72 (hw : OwnW a0 Z) : Cond.before (.initialized "java/lang/AbstractStringBuilder") a0 Z = true := wA hw 72 rfl
theorem w_68 (hw : OwnW a0 Z) : Cond.before (.methodLink "java/lang/StringBuilder" (1 : Nat) ⟨"java/lang/AbstractStringBuilder", "<init>", "(I)V"⟩) a0 Z = true := wA hw 68 rfl
theorem pd_1 : parseMethodDescriptor "(I)V" = some ⟨[.int], none⟩ := by decide +kernel
theorem w_69 (hw : OwnW a0 Z) : Cond.before (.instanceMethod ⟨"java/lang/AbstractStringBuilder", "<init>", "(I)V"⟩) a0 Z = true := wA hw 69 rfl
theorem d11_6 : decode jdk_67_method_1_code 6 = .ok (.return_, 1) := by decide +kernel
def Q11 (Z : State) (o1 : Addr) (cs1 : Int32) (h0 : Heap) (n0 : Nat) (v : Option Value) (h : Heap) (L : List Loc) : Prop := ∃ (o3 : Addr) (kd3 : ClassId), v = none ∧ Fr n0 L ∧ h0.size ≤ o3 ∧ Keep h0 h [o1] ∧ Fld Z h o1 "java/lang/AbstractStringBuilder" "value" "[B" (.ref o3) ∧ Fld Z h o1 "java/lang/AbstractStringBuilder" "coder" "B" (.int 0) ∧ Fld Z h o1 "java/lang/AbstractStringBuilder" "count" "I" (.int (Int32.ofNat ([] : List Int32).length)) ∧ Arv Z h o3 kd3 .byte (Int32.ofNat 16) (([] : List Int32).map Value.int) (.int 0) ∧ Exa Z h o3 "[B"
abbrev y11 : MethodName := (⟨"java/lang/StringBuilder", "<init>", "()V"⟩ : MethodName)
theorem pn_11 : plainName "java/lang/StringBuilder" = true := by first | (simp [plainName, overriddenIn]; done) | decide +kernel
theorem rm11 {o1 : Addr} {cs1 : Int32} (hw : OwnW a0 Z) (Z0 : n0 ≤ h0.size) (F0 : Exa Z h0 o1 "java/lang/StringBuilder") (F1 : Fld Z h0 o1 "java/lang/AbstractStringBuilder" "value" "[B" .null) (F2 : Fld Z h0 o1 "java/lang/AbstractStringBuilder" "coder" "B" (.int 0)) (F3 : Fld Z h0 o1 "java/lang/AbstractStringBuilder" "count" "I" (.int 0)) (F4 : OSc Z h0 cs1) (gn_o1 : n0 ≤ o1) (hcs : ¬ cs1 = (0 : Int32)) : OwnMF l Z y11 jdk_67_method_1_code 1 none ws ⟨2, 1, 16, 25⟩ #[(.ref o1)] h0 (Q11 Z o1 cs1 h0 n0) := by
  refine bo (plainFor_of_name pn_11) ?_
  intro p e s m below meth c T0 G C hnm hnamed X0 e0 K
  have N0 := Fr.nil n0
  refine Goes.to (congrArg T0.setTop (ef_11r m o1)) ?_
  have K00 := Keep.refl h0 [o1]
  refine g_aloadN C X0 d11_0 1 rfl rfl ?_
  refine g_bipush C X0 d11_1 3 (v := 16) rfl ?_
  refine g_callI C X0 rfl (w_68 hw) (w_69 hw) (w_72 hw) (w_73 hw) d11_3 [(.int 16)] [] 0 (rm12 hw Z0 F0 F1 F2 F3 F4 gn_o1 hcs) pd_1 e0 6 (fun u1 T1 L1 X1 hQ1 => ?_)
  obtain ⟨o31, kd31, rfl, Nq1, szo31, Kq1, q1_0, q1_1, q1_2, q1_3, q1_4⟩ := hQ1
  have N1 := Fr.app N0 Nq1
  have sz_o31 : h0.size ≤ o31 := Nat.le_trans K00.1 szo31
  have K1 := K00.trans Kq1 (allS (Or.inl (List.mem_of_getElem? (i := 0) rfl)) all0)
  refine ret0 ?_
  exact g_retV C X1 K d11_6 (by decide) (by decide) rfl ⟨o31, kd31, rfl, N1, sz_o31, K1, q1_0, q1_1, q1_2, q1_3, q1_4⟩
theorem ef_16r (m : MethodId) (a1 : Addr) : entryFrame m #[(.ref a1)] 1 = mkF m 0 #[rv a1] [] := by first | (simp [entryFrame, mkF, argsToLocals, Value.category, iv, rv, jv, nv, uu, sd]; done) | rfl
theorem d16_0 : decode jdk_42_method_152_code 0 = .ok (.getstatic 38, 3) := by decide +kernel
theorem w_4 (hw : OwnW a0 Z) : Cond.before (.fieldLink "java/lang/String" (38 : Nat) "java/lang/String" "COMPACT_STRINGS" "Z") a0 Z = true := wA hw 4 rfl
theorem d16_3 : decode jdk_42_method_152_code 3 = .ok (.ifCond .eq 10, 3) := by decide +kernel
theorem d16_6 : decode jdk_42_method_152_code 6 = .ok (.aload_n 0, 1) := by decide +kernel
theorem d16_7 : decode jdk_42_method_152_code 7 = .ok (.getfield 15, 3) := by decide +kernel
theorem w_24 (hw : OwnW a0 Z) : Cond.before (.fieldLink "java/lang/String" (15 : Nat) "java/lang/String" "coder" "B") a0 Z = true := wA hw 24 rfl
theorem d16_10 : decode jdk_42_method_152_code 10 = .ok (.goto 4, 3) := by decide +kernel
theorem d16_14 : decode jdk_42_method_152_code 14 = .ok (.ireturn, 1) := by decide +kernel
abbrev y16 : MethodName := (⟨"java/lang/String", "coder", "()B"⟩ : MethodName)
theorem pn_1 : plainName "java/lang/String" = true := by first | (simp [plainName, overriddenIn]; done) | decide +kernel
theorem rm16 {o1 : Addr} {cs1 : Int32} (hw : OwnW a0 Z) (Z0 : n0 ≤ h0.size) (F0 : OFc Z h0 o1) (F1 : OSc Z h0 cs1) (hcs : ¬ cs1 = (0 : Int32)) : OwnMF l Z y16 jdk_42_method_152_code 1 (some .byte) ws ⟨0, 0, 0, 0⟩ #[(.ref o1)] h0 (OwnQ (some (.int 0)) h0 n0) := by
  refine bo (plainFor_of_name pn_1) ?_
  intro p e s m below meth c T0 G C hnm hnamed X0 e0 K
  have N0 := Fr.nil n0
  refine Goes.to (congrArg T0.setTop (ef_16r m o1)) ?_
  refine g_getS C X0 (w_4 hw) Via.refl e0 F1 d16_0 3 (fun T1 X1 e1 => ?_)
  refine g_if_eq C X1 d16_3 13 6 (fun hc3 => absurd hc3 hcs) (fun hc3 => ?_)
  refine g_aloadN C X1 d16_6 7 rfl rfl ?_
  refine g_getF C X1 (w_24 hw) Via.refl e1 F0 d16_7 10 (fun T2 X2 e2 => ?_)
  refine g_goto C X2 d16_10 14 ?_
  exact g_retN C X2 K (by simp) d16_14 (by decide) (by decide) e2 ⟨(by decide), N0, rfl⟩
theorem ef_15r (m : MethodId) (a1 : Addr) : entryFrame m #[(.ref a1)] 1 = mkF m 0 #[rv a1] [] := by first | (simp [entryFrame, mkF, argsToLocals, Value.category, iv, rv, jv, nv, uu, sd]; done) | rfl
theorem d15_0 : decode jdk_42_method_54_code 0 = .ok (.aload_n 0, 1) := by decide +kernel
theorem d15_1 : decode jdk_42_method_54_code 1 = .ok (.getfield 9, 3) := by decide +kernel
theorem w_22 (hw : OwnW a0 Z) : Cond.before (.fieldLink "java/lang/String" (9 : Nat) "java/lang/String" "value" "[B") a0 Z = true := wA hw 22 rfl
theorem d15_4 : decode jdk_42_method_54_code 4 = .ok (.arraylength, 1) := by decide +kernel
theorem d15_5 : decode jdk_42_method_54_code 5 = .ok (.aload_n 0, 1) := by decide +kernel
theorem d15_6 : decode jdk_42_method_54_code 6 = .ok (.invokevirtual 335, 3) := by decide +kernel
theorem w_99 (hw : OwnW a0 Z) : Cond.before (.code ⟨"java/lang/String", "coder", "()B"⟩ jdk_42_method_152_code (1 : Nat) (Option.some Jvm.ClassFile.FieldType.byte)) a0 Z = true := wA hw 99 rfl
theorem w_2 (hw : OwnW a0 Z) : Cond.before (.initialized "java/lang/String") a0 Z = true := wA hw 2 rfl
theorem w_95 (hw : OwnW a0 Z) : Cond.before (.methodLink "java/lang/String" (335 : Nat) ⟨"java/lang/String", "coder", "()B"⟩) a0 Z = true := wA hw 95 rfl
theorem pd_2 : parseMethodDescriptor "()B" = some ⟨[], some .byte⟩ := by decide +kernel
theorem w_96 (hw : OwnW a0 Z) : Cond.before (.declares ⟨"java/lang/String", "coder", "()B"⟩) a0 Z = true := wA hw 96 rfl
theorem w_98 (hw : OwnW a0 Z) : Cond.before (.selects "java/lang/String" ⟨"java/lang/String", "coder", "()B"⟩ ⟨"java/lang/String", "coder", "()B"⟩) a0 Z = true := wA hw 98 rfl
theorem w_97 (hw : OwnW a0 Z) : Cond.before (.instanceMethod ⟨"java/lang/String", "coder", "()B"⟩) a0 Z = true := wA hw 97 rfl
theorem b_0 (hw : OwnW a0 Z) : CallV "java/lang/String" 335 (⟨"java/lang/String", "coder", "()B"⟩ : MethodName) "java/lang/String" jdk_42_method_152_code (1 : Nat) (Option.some Jvm.ClassFile.FieldType.byte) a0 Z := ⟨(w_95 hw), (w_96 hw), (w_98 hw), (w_97 hw), (w_99 hw), (w_2 hw)⟩
theorem d15_9 : decode jdk_42_method_54_code 9 = .ok (.ishr, 1) := by decide +kernel
theorem d15_10 : decode jdk_42_method_54_code 10 = .ok (.ireturn, 1) := by decide +kernel
abbrev y15 : MethodName := (⟨"java/lang/String", "length", "()I"⟩ : MethodName)
theorem rm15_s {o1 o2 : Addr} {kd1 : ClassId} {l1 : List Int32} {cs1 : Int32} (hw : OwnW a0 Z) (Z0 : n0 ≤ h0.size) (F0 : OEs Z h0 o1) (F1 : OFv Z h0 o1 (.ref o2)) (F2 : OFc Z h0 o1) (F3 : Arv Z h0 o2 kd1 .byte (Int32.ofNat l1.length) (l1.map Value.int) (.int 0)) (F4 : OSc Z h0 cs1) (hcs : ¬ cs1 = (0 : Int32)) : OwnMF l Z y15 jdk_42_method_54_code 1 (some .int) ws ⟨1, 0, 0, 13⟩ #[(.ref o1)] h0 (OwnQ (some (.int (Int32.ofNat l1.length))) h0 n0) := by
  refine bo (plainFor_of_name pn_1) ?_
  intro p e s m below meth c T0 G C hnm hnamed X0 e0 K
  have N0 := Fr.nil n0
  refine Goes.to (congrArg T0.setTop (ef_15r m o1)) ?_
  refine g_aloadN C X0 d15_0 1 rfl rfl ?_
  refine g_getF C X0 (w_22 hw) Via.refl e0 F1 d15_1 4 (fun T1 X1 e1 => ?_)
  refine g_arraylength C X1 e1 F3 d15_4 5 ?_
  refine g_aloadN C X1 d15_5 6 rfl rfl ?_
  refine g_callV0 C X1 (b_0 hw) F0 d15_6 [] [(.int (Int32.ofNat l1.length))] 1 (rm16 hw Z0 F2 F4 hcs) N0 pd_2 e1 9 (fun T2 _ X2 N2 e2 => ?_)
  refine g_ishr C X2 d15_9 10 ?_
  exact g_retI C X2 K d15_10 (by decide) (by decide) e2 ⟨(by rw [own_shr0]), N2, rfl⟩
theorem ef_50ii (m : MethodId) (a1 : Int32) (a2 : Int32) : entryFrame m #[(.int a1), (.int a2)] 2 = mkF m 0 #[iv a1, iv a2] [] := by first | (simp [entryFrame, mkF, argsToLocals, Value.category, iv, rv, jv, nv, uu, sd]; done) | rfl
theorem d50_0 : decode jdk_29_method_65_code 0 = .ok (.iload_n 0, 1) := by decide +kernel
theorem d50_1 : decode jdk_29_method_65_code 1 = .ok (.iload_n 1, 1) := by decide +kernel
theorem d50_2 : decode jdk_29_method_65_code 2 = .ok (.if_icmp .lt 7, 3) := by decide +kernel
theorem d50_9 : decode jdk_29_method_65_code 9 = .ok (.iload_n 1, 1) := by decide +kernel
theorem d50_10 : decode jdk_29_method_65_code 10 = .ok (.ireturn, 1) := by decide +kernel
theorem d50_5 : decode jdk_29_method_65_code 5 = .ok (.iload_n 0, 1) := by decide +kernel
theorem d50_6 : decode jdk_29_method_65_code 6 = .ok (.goto 4, 3) := by decide +kernel
def fMax (x0 : Int32) (x1 : Int32) : Int32 := if x0 < x1 then x1 else x0
abbrev y50 : MethodName := (⟨"java/lang/Math", "max", "(II)I"⟩ : MethodName)
theorem rm50 {x0 x1 : Int32} (hw : OwnW a0 Z) (Z0 : n0 ≤ h0.size) : OwnMF l Z y50 jdk_29_method_65_code 2 (some .int) ws ⟨0, 0, 0, 0⟩ #[(.int x0), (.int x1)] h0 (OwnQ (some (.int (fMax x0 x1))) h0 n0) := by
  refine bo (Jvm.Free.JP.mathPlain rfl (by decide +kernel)) ?_
  intro p e s m below meth c T0 G C hnm hnamed X0 e0 K
  have N0 := Fr.nil n0
  refine Goes.to (congrArg T0.setTop (ef_50ii m x0 x1)) ?_
  refine g_iloadN C X0 d50_0 1 rfl ?_
  refine g_iloadN C X0 d50_1 2 rfl ?_
  refine g_icmp_lt C X0 d50_2 9 5 (fun hc2 => ?_) (fun hc2 => ?_)
  · refine g_iloadN C X0 d50_9 10 rfl ?_
    exact g_retI C X0 K d50_10 (by decide) (by decide) e0 ⟨by (unfold fMax; rw [if_pos hc2]) <;> rfl, N0, rfl⟩
  · refine g_iloadN C X0 d50_5 6 rfl ?_
    refine g_goto C X0 d50_6 10 ?_
    exact g_retI C X0 K d50_10 (by decide) (by decide) e0 ⟨by (unfold fMax; rw [if_neg hc2]) <;> rfl, N0, rfl⟩
theorem ef_35ii (m : MethodId) (a1 : Int32) (a2 : Int32) : entryFrame m #[(.int a1), (.int a2)] 2 = mkF m 0 #[iv a1, iv a2] [] := by first | (simp [entryFrame, mkF, argsToLocals, Value.category, iv, rv, jv, nv, uu, sd]; done) | rfl
theorem d35_0 : decode jdk_29_method_69_code 0 = .ok (.iload_n 0, 1) := by decide +kernel
theorem d35_1 : decode jdk_29_method_69_code 1 = .ok (.iload_n 1, 1) := by decide +kernel
theorem d35_2 : decode jdk_29_method_69_code 2 = .ok (.if_icmp .gt 7, 3) := by decide +kernel
theorem d35_9 : decode jdk_29_method_69_code 9 = .ok (.iload_n 1, 1) := by decide +kernel
theorem d35_10 : decode jdk_29_method_69_code 10 = .ok (.ireturn, 1) := by decide +kernel
theorem d35_5 : decode jdk_29_method_69_code 5 = .ok (.iload_n 0, 1) := by decide +kernel
theorem d35_6 : decode jdk_29_method_69_code 6 = .ok (.goto 4, 3) := by decide +kernel
def fMin (x0 : Int32) (x1 : Int32) : Int32 := if x1 < x0 then x1 else x0
abbrev y35 : MethodName := (⟨"java/lang/Math", "min", "(II)I"⟩ : MethodName)
theorem rm35 {x0 x1 : Int32} (hw : OwnW a0 Z) (Z0 : n0 ≤ h0.size) : OwnMF l Z y35 jdk_29_method_69_code 2 (some .int) ws ⟨0, 0, 0, 0⟩ #[(.int x0), (.int x1)] h0 (OwnQ (some (.int (fMin x0 x1))) h0 n0) := by
  refine bo (Jvm.Free.JP.mathPlain rfl (by decide +kernel)) ?_
  intro p e s m below meth c T0 G C hnm hnamed X0 e0 K
  have N0 := Fr.nil n0
  refine Goes.to (congrArg T0.setTop (ef_35ii m x0 x1)) ?_
  refine g_iloadN C X0 d35_0 1 rfl ?_
  refine g_iloadN C X0 d35_1 2 rfl ?_
  refine g_icmp_gt C X0 d35_2 9 5 (fun hc2 => ?_) (fun hc2 => ?_)
  · refine g_iloadN C X0 d35_9 10 rfl ?_
    exact g_retI C X0 K d35_10 (by decide) (by decide) e0 ⟨by (unfold fMin; rw [if_pos hc2]) <;> rfl, N0, rfl⟩
  · refine g_iloadN C X0 d35_5 6 rfl ?_
    refine g_goto C X0 d35_6 10 ?_
    exact g_retI C X0 K d35_10 (by decide) (by decide) e0 ⟨by (unfold fMin; rw [if_neg hc2]) <;> rfl, N0, rfl⟩
def capN (c m : Nat) : Nat := max m (c + (c + 2))
theorem max_eq (a b : Nat) (ha : a < 2 ^ 31) (hb : b < 2 ^ 31) : fMax (Int32.ofNat a) (Int32.ofNat b) = Int32.ofNat (max a b) := by
  unfold fMax
  by_cases h : a < b
  · rw [if_pos ((i_lt a b ha hb).mpr h), Nat.max_eq_right (Nat.le_of_lt h)]
  · rw [if_neg (fun q => h ((i_lt a b ha hb).mp q)), Nat.max_eq_left (Nat.le_of_not_lt h)]
theorem min_eq (a b : Nat) (ha : a < 2 ^ 31) (hb : b < 2 ^ 31) : fMin (Int32.ofNat a) (Int32.ofNat b) = Int32.ofNat (min a b) := by
  unfold fMin
  by_cases h : b < a
  · rw [if_pos ((i_lt b a hb ha).mpr h), Nat.min_eq_right (Nat.le_of_lt h)]
  · rw [if_neg (fun q => h ((i_lt b a hb ha).mp q)), Nat.min_eq_left (Nat.le_of_not_lt h)]
theorem cap_le {c m : Nat} (hcm : c < m) (hm : m ≤ 1000) : m ≤ capN c m ∧ capN c m ≤ 2002 := by unfold capN; omega
theorem own_shl0 (x : Int32) : x <<< ((0 : Int32) &&& 31) = x := by
  rw [← Int32.toInt_inj]; simp
theorem cap_eq {c m : Nat} {i : Int32} (hi : Int32.ofNat m = i) (hcm : c < m) (hm : m ≤ 1000) : Int32.ofNat c + fMax ((i <<< ((0 : Int32) &&& 31)) - Int32.ofNat c) (Int32.ofNat c + ((2 : Int32) <<< ((0 : Int32) &&& 31))) = Int32.ofNat (capN c m) := by
  subst hi
  rw [own_shl0, own_shl0, i_sub m c (Nat.le_of_lt hcm), show (2 : Int32) = Int32.ofNat 2 from rfl, i_add, max_eq _ _ (by omega) (by omega), i_add]
  congr 1; unfold capN; omega
theorem cap_pos {c m : Nat} (hcm : c < m) (hm : m ≤ 1000) : (0 : Int32) < Int32.ofNat (capN c m) := (i_lt 0 _ (by omega) (by have := cap_le hcm hm; omega)).mpr (by have := cap_le hcm hm; omega)
theorem cap_soft {c m : Nat} (hcm : c < m) (hm : m ≤ 1000) : ¬ (2147483639 : Int32) < Int32.ofNat (capN c m) := fun q => by
  have h := cap_le hcm hm
  have := (i_lt 2147483639 (capN c m) (by omega) (by omega)).mp q
  omega
theorem cap_ne {c m : Nat} (hcm : c < m) (hm : m ≤ 1000) : ¬ Int32.ofNat (capN c m) = (2147483647 : Int32) := fun q => by
  have h := cap_le hcm hm
  have e := congrArg Int32.toInt q
  rw [i_toInt _ (by omega)] at e
  have : (capN c m : Int) = 2147483647 := e
  omega
theorem cp_ne {c m : Nat} {i : Int32} (hi : Int32.ofNat m = i) (hcm : c < m) (hm : m ≤ 90) : ¬ i = Int32.ofNat c := fun q => by
  subst hi
  have e := congrArg Int32.toInt q
  rw [i_toInt _ (by omega), i_toInt _ (by omega)] at e
  omega
theorem cp_n {m : Nat} {i : Int32} (hi : Int32.ofNat m = i) (hm : m ≤ 90) : ¬ i < 0 := hi ▸ i_nn m (by omega)
theorem cp_cap {m : Nat} {i : Int32} (hi : Int32.ofNat m = i) (hm : m ≤ 90) : i.toNatClampNeg ≤ 90 := by subst hi; rw [i_toNat _ (by omega)]; exact hm
theorem cp_min {c m : Nat} {i : Int32} (hi : Int32.ofNat m = i) (hcm : c < m) (hm : m ≤ 90) : fMin (Int32.ofNat c) i = Int32.ofNat c := by subst hi; rw [min_eq _ _ (by omega) (by omega), Nat.min_eq_left (by omega)]
theorem cp_t {c m : Nat} {i : Int32} (hi : Int32.ofNat m = i) (hcm : c < m) (hm : m ≤ 90) : (fMin (Int32.ofNat c) i).toNatClampNeg = c := by rw [cp_min hi hcm hm, i_toNat _ (by omega)]
theorem cp_nn {c m : Nat} {i : Int32} (hi : Int32.ofNat m = i) (hcm : c < m) (hm : m ≤ 90) : ¬ fMin (Int32.ofNat c) i < 0 := by rw [cp_min hi hcm hm]; exact i_nn c (by omega)
theorem cp_h4 {c m : Nat} {i : Int32} (hi : Int32.ofNat m = i) (hcm : c < m) (hm : m ≤ 90) : (0 : Int32).toNatClampNeg + (fMin (Int32.ofNat c) i).toNatClampNeg ≤ (Int32.ofNat c).toNatClampNeg := by rw [cp_t hi hcm hm, i_toNat c (by omega)]; show 0 + c ≤ c; omega
theorem cp_h5 {c m : Nat} {i : Int32} (hi : Int32.ofNat m = i) (hcm : c < m) (hm : m ≤ 90) : (0 : Int32).toNatClampNeg + (fMin (Int32.ofNat c) i).toNatClampNeg ≤ (Int32.ofNat m).toNatClampNeg := by rw [cp_t hi hcm hm, i_toNat m (by omega)]; show 0 + c ≤ m; omega
theorem cp_hl {c m : Nat} {i : Int32} (hi : Int32.ofNat m = i) (hcm : c < m) (hm : m ≤ 90) : (0 : Int32).toNatClampNeg + (fMin (Int32.ofNat c) i).toNatClampNeg ≤ ([] ++ List.replicate m (Value.int 0)).length := by rw [cp_t hi hcm hm]; show 0 + c ≤ _; simp; omega
theorem cp_ll {c m : Nat} {i : Int32} {l : List Int32} (hi : Int32.ofNat m = i) (hcm : c < m) (hm : m ≤ 90) (hll : l.length ≤ c) : l.length ≤ (fMin (Int32.ofNat c) i).toNatClampNeg := by rw [cp_t hi hcm hm]; exact hll
theorem map_getD (l : List Int32) (k : Nat) : (l.map Value.int).getD k (.int 0) = .int (l.getD k 0) := by
  simp only [List.getD_eq_getElem?_getD, List.getElem?_map]; cases l[k]? <;> rfl
theorem raw_copy {l : List Int32} {m sp dp nn : Nat} (hs : sp = 0) (hd : dp = 0) (hl : l.length ≤ nn) : ∀ k, (l.map Value.int).getD k (.int 0) = ((([] ++ List.replicate m (Value.int 0)).take dp ++ (List.range nn).map (fun i => (l.map Value.int).getD (sp + i) (.int 0)) ++ ([] ++ List.replicate m (Value.int 0)).drop (dp + nn)).getD k (.int 0)) := by
  intro k
  subst hs hd
  simp only [List.nil_append, List.take_zero, Nat.zero_add, List.drop_replicate]
  rw [List.getD_eq_getElem?_getD, List.getD_eq_getElem?_getD]
  by_cases hk : k < nn
  · rw [List.getElem?_append_left (by simpa using hk), List.getElem?_map, List.getElem?_map, List.getElem?_range hk]
    simp only [Option.map_some, Option.getD_some]
    rw [map_getD, List.getD_eq_getElem?_getD]
    cases l[k]? <;> rfl
  · rw [List.getElem?_append_right (by simpa using Nat.le_of_not_lt hk), List.getElem?_map, List.getElem?_eq_none (by omega), List.getElem?_replicate]
    split <;> rfl

theorem ef_49iii (m : MethodId) (a1 : Int32) (a2 : Int32) (a3 : Int32) : entryFrame m #[(.int a1), (.int a2), (.int a3)] 4 = mkF m 0 #[iv a1, iv a2, iv a3, uu] [] := by first | (simp [entryFrame, mkF, argsToLocals, Value.category, iv, rv, jv, nv, uu, sd]; done) | rfl
theorem d49_0 : decode jdk_48_method_27_code 0 = .ok (.iload_n 0, 1) := by decide +kernel
theorem d49_1 : decode jdk_48_method_27_code 1 = .ok (.iload_n 1, 1) := by decide +kernel
theorem d49_2 : decode jdk_48_method_27_code 2 = .ok (.iload_n 2, 1) := by decide +kernel
theorem d49_3 : decode jdk_48_method_27_code 3 = .ok (.invokestatic 194, 3) := by decide +kernel
theorem w_258 (hw : OwnW a0 Z) : Cond.before (.code ⟨"java/lang/Math", "max", "(II)I"⟩ jdk_29_method_65_code (2 : Nat) (Option.some Jvm.ClassFile.FieldType.int)) a0 Z = true := wA hw 258 rfl
theorem w_188 (hw : OwnW a0 Z) : Cond.before (.initialized "java/lang/Math") a0 Z = true := wA hw 188 rfl
theorem w_256 (hw : OwnW a0 Z) : Cond.before (.methodLink "jdk/internal/util/ArraysSupport" (194 : Nat) ⟨"java/lang/Math", "max", "(II)I"⟩) a0 Z = true := wA hw 256 rfl
theorem pd_3 : parseMethodDescriptor "(II)I" = some ⟨[.int, .int], some .int⟩ := by decide +kernel
theorem w_257 (hw : OwnW a0 Z) : Cond.before (.static ⟨"java/lang/Math", "max", "(II)I"⟩) a0 Z = true := wA hw 257 rfl
theorem b_1 (hw : OwnW a0 Z) : CallS "jdk/internal/util/ArraysSupport" 194 (⟨"java/lang/Math", "max", "(II)I"⟩ : MethodName) jdk_29_method_65_code (2 : Nat) (Option.some Jvm.ClassFile.FieldType.int) a0 Z := ⟨(w_256 hw), (w_257 hw), (w_188 hw), (w_258 hw)⟩
theorem d49_6 : decode jdk_48_method_27_code 6 = .ok (.iadd, 1) := by decide +kernel
theorem d49_7 : decode jdk_48_method_27_code 7 = .ok (.istore_n 3, 1) := by decide +kernel
theorem d49_8 : decode jdk_48_method_27_code 8 = .ok (.iconst 0, 1) := by decide +kernel
theorem d49_9 : decode jdk_48_method_27_code 9 = .ok (.iload_n 3, 1) := by decide +kernel
theorem d49_10 : decode jdk_48_method_27_code 10 = .ok (.if_icmp .ge 11, 3) := by decide +kernel
theorem d49_13 : decode jdk_48_method_27_code 13 = .ok (.iload_n 3, 1) := by decide +kernel
theorem d49_14 : decode jdk_48_method_27_code 14 = .ok (.ldc 200, 2) := by decide +kernel
theorem w_259 (hw : OwnW a0 Z) : Cond.before (.constant "jdk/internal/util/ArraysSupport" (200 : Nat) (2147483639 : Int32)) a0 Z = true := wA hw 259 rfl
theorem d49_16 : decode jdk_48_method_27_code 16 = .ok (.if_icmp .gt 5, 3) := by decide +kernel
theorem d49_19 : decode jdk_48_method_27_code 19 = .ok (.iload_n 3, 1) := by decide +kernel
theorem d49_20 : decode jdk_48_method_27_code 20 = .ok (.ireturn, 1) := by decide +kernel
abbrev y49 : MethodName := (⟨"jdk/internal/util/ArraysSupport", "newLength", "(III)I"⟩ : MethodName)
theorem pn_49 : plainName "jdk/internal/util/ArraysSupport" = true := by first | (simp [plainName, overriddenIn]; done) | decide +kernel
theorem rm49 {i1 i2 i3 r4 : Int32} (hw : OwnW a0 Z) (Z0 : n0 ≤ h0.size) (hm : i1 + fMax i2 i3 = r4) (hp : (0 : Int32) < r4) (hs : ¬ (2147483639 : Int32) < r4) : OwnMF l Z y49 jdk_48_method_27_code 4 (some .int) ws ⟨1, 0, 0, 14⟩ #[(.int i1), (.int i2), (.int i3)] h0 (OwnQ (some (.int r4)) h0 n0) := by
  refine bo (plainFor_of_name pn_49) ?_
  intro p e s m below meth c T0 G C hnm hnamed X0 e0 K
  have N0 := Fr.nil n0
  refine Goes.to (congrArg T0.setTop (ef_49iii m i1 i2 i3)) ?_
  refine g_iloadN C X0 d49_0 1 rfl ?_
  refine g_iloadN C X0 d49_1 2 rfl ?_
  refine g_iloadN C X0 d49_2 3 rfl ?_
  refine g_callS0 C X0 (b_1 hw) d49_3 [(.int i2), (.int i3)] [(.int i1)] 1 (rm50 hw Z0) N0 pd_3 e0 6 (fun T1 _ X1 N1 e1 => ?_)
  refine g_iadd C X1 d49_6 7 ?_
  refine g_istoreN C X1 d49_7 8 (w := (i1 + (fMax i2 i3))) rfl (ls' := #[iv i1, iv i2, iv i3, iv (i1 + (fMax i2 i3))]) rfl ?_
  refine g_iconst C X1 d49_8 9 (v := 0) rfl ?_
  refine g_iloadN C X1 d49_9 10 rfl ?_
  refine g_icmp_ge C X1 d49_10 21 13 (fun hc10 => absurd (hm ▸ hp) hc10) (fun hc10 => ?_)
  refine g_iloadN C X1 d49_13 14 rfl ?_
  refine g_ldc C X1 (w_259 hw) d49_14 16 ?_
  refine g_icmp_gt C X1 d49_16 21 19 (fun hc16 => absurd hc16 (hm ▸ hs)) (fun hc16 => ?_)
  refine g_iloadN C X1 d49_19 20 rfl ?_
  exact g_retI C X1 K d49_20 (by decide) (by decide) e1 ⟨(by rw [hm]), N1, rfl⟩
theorem ef_48ri (m : MethodId) (a1 : Addr) (a2 : Int32) : entryFrame m #[(.ref a1), (.int a2)] 6 = mkF m 0 #[rv a1, iv a2, uu, uu, uu, uu] [] := by first | (simp [entryFrame, mkF, argsToLocals, Value.category, iv, rv, jv, nv, uu, sd]; done) | rfl
theorem d48_0 : decode jdk_68_method_10_code 0 = .ok (.aload_n 0, 1) := by decide +kernel
theorem d48_1 : decode jdk_68_method_10_code 1 = .ok (.getfield 15, 3) := by decide +kernel
theorem d48_4 : decode jdk_68_method_10_code 4 = .ok (.arraylength, 1) := by decide +kernel
theorem d48_5 : decode jdk_68_method_10_code 5 = .ok (.istore_n 2, 1) := by decide +kernel
theorem d48_6 : decode jdk_68_method_10_code 6 = .ok (.iload_n 1, 1) := by decide +kernel
theorem d48_7 : decode jdk_68_method_10_code 7 = .ok (.aload_n 0, 1) := by decide +kernel
theorem d48_8 : decode jdk_68_method_10_code 8 = .ok (.getfield 22, 3) := by decide +kernel
theorem d48_11 : decode jdk_68_method_10_code 11 = .ok (.ishl, 1) := by decide +kernel
theorem d48_12 : decode jdk_68_method_10_code 12 = .ok (.istore_n 3, 1) := by decide +kernel
theorem d48_13 : decode jdk_68_method_10_code 13 = .ok (.iload_n 3, 1) := by decide +kernel
theorem d48_14 : decode jdk_68_method_10_code 14 = .ok (.iload_n 2, 1) := by decide +kernel
theorem d48_15 : decode jdk_68_method_10_code 15 = .ok (.isub, 1) := by decide +kernel
theorem d48_16 : decode jdk_68_method_10_code 16 = .ok (.istore 4, 2) := by decide +kernel
theorem d48_18 : decode jdk_68_method_10_code 18 = .ok (.iload_n 2, 1) := by decide +kernel
theorem d48_19 : decode jdk_68_method_10_code 19 = .ok (.iload 4, 2) := by decide +kernel
theorem d48_21 : decode jdk_68_method_10_code 21 = .ok (.iload_n 2, 1) := by decide +kernel
theorem d48_22 : decode jdk_68_method_10_code 22 = .ok (.iconst 2, 1) := by decide +kernel
theorem d48_23 : decode jdk_68_method_10_code 23 = .ok (.aload_n 0, 1) := by decide +kernel
theorem d48_24 : decode jdk_68_method_10_code 24 = .ok (.getfield 22, 3) := by decide +kernel
theorem d48_27 : decode jdk_68_method_10_code 27 = .ok (.ishl, 1) := by decide +kernel
theorem d48_28 : decode jdk_68_method_10_code 28 = .ok (.iadd, 1) := by decide +kernel
theorem d48_29 : decode jdk_68_method_10_code 29 = .ok (.invokestatic 114, 3) := by decide +kernel
theorem w_255 (hw : OwnW a0 Z) : Cond.before (.code ⟨"jdk/internal/util/ArraysSupport", "newLength", "(III)I"⟩ jdk_48_method_27_code (4 : Nat) (Option.some Jvm.ClassFile.FieldType.int)) a0 Z = true := wA hw 255 rfl
theorem w_254 (hw : OwnW a0 Z) : Cond.before (.initialized "jdk/internal/util/ArraysSupport") a0 Z = true := wA hw 254 rfl
theorem w_252 (hw : OwnW a0 Z) : Cond.before (.methodLink "java/lang/AbstractStringBuilder" (114 : Nat) ⟨"jdk/internal/util/ArraysSupport", "newLength", "(III)I"⟩) a0 Z = true := wA hw 252 rfl
theorem pd_4 : parseMethodDescriptor "(III)I" = some ⟨[.int, .int, .int], some .int⟩ := by decide +kernel
theorem w_253 (hw : OwnW a0 Z) : Cond.before (.static ⟨"jdk/internal/util/ArraysSupport", "newLength", "(III)I"⟩) a0 Z = true := wA hw 253 rfl
theorem b_2 (hw : OwnW a0 Z) : CallS "java/lang/AbstractStringBuilder" 114 (⟨"jdk/internal/util/ArraysSupport", "newLength", "(III)I"⟩ : MethodName) jdk_48_method_27_code (4 : Nat) (Option.some Jvm.ClassFile.FieldType.int) a0 Z := ⟨(w_252 hw), (w_253 hw), (w_254 hw), (w_255 hw)⟩
theorem d48_32 : decode jdk_68_method_10_code 32 = .ok (.istore 5, 2) := by decide +kernel
theorem d48_34 : decode jdk_68_method_10_code 34 = .ok (.iload 5, 2) := by decide +kernel
theorem d48_36 : decode jdk_68_method_10_code 36 = .ok (.ldc 39, 2) := by decide +kernel
theorem w_260 (hw : OwnW a0 Z) : Cond.before (.constant "java/lang/AbstractStringBuilder" (39 : Nat) (2147483647 : Int32)) a0 Z = true := wA hw 260 rfl
theorem d48_38 : decode jdk_68_method_10_code 38 = .ok (.if_icmp .ne 13, 3) := by decide +kernel
theorem d48_51 : decode jdk_68_method_10_code 51 = .ok (.iload 5, 2) := by decide +kernel
theorem d48_53 : decode jdk_68_method_10_code 53 = .ok (.aload_n 0, 1) := by decide +kernel
theorem d48_54 : decode jdk_68_method_10_code 54 = .ok (.getfield 22, 3) := by decide +kernel
theorem d48_57 : decode jdk_68_method_10_code 57 = .ok (.ishr, 1) := by decide +kernel
theorem d48_58 : decode jdk_68_method_10_code 58 = .ok (.ireturn, 1) := by decide +kernel
abbrev y48 : MethodName := (⟨"java/lang/AbstractStringBuilder", "newCapacity", "(I)I"⟩ : MethodName)
theorem rm48 {o1 o2 : Addr} {i1 : Int32} {kd1 : ClassId} {c1 m1 : Nat} {l1 : List Int32} (hw : OwnW a0 Z) (Z0 : n0 ≤ h0.size) (F0 : Fld Z h0 o1 "java/lang/AbstractStringBuilder" "value" "[B" (.ref o2)) (F1 : Fld Z h0 o1 "java/lang/AbstractStringBuilder" "coder" "B" (.int 0)) (F2 : Arv Z h0 o2 kd1 .byte (Int32.ofNat c1) (l1.map Value.int) (.int 0)) (hi : Int32.ofNat m1 = i1) (hcm : c1 < m1) (hm : m1 ≤ 1000) : OwnMF l Z y48 jdk_68_method_10_code 6 (some .int) ws ⟨2, 0, 0, 29⟩ #[(.ref o1), (.int i1)] h0 (OwnQ (some (.int (Int32.ofNat (capN c1 m1)))) h0 n0) := by
  refine bo (plainFor_of_name pn_12) ?_
  intro p e s m below meth c T0 G C hnm hnamed X0 e0 K
  have N0 := Fr.nil n0
  refine Goes.to (congrArg T0.setTop (ef_48ri m o1 i1)) ?_
  refine g_aloadN C X0 d48_0 1 rfl rfl ?_
  refine g_getF C X0 (w_76 hw) Via.refl e0 F0 d48_1 4 (fun T1 X1 e1 => ?_)
  refine g_arraylength C X1 e1 F2 d48_4 5 ?_
  refine g_istoreN C X1 d48_5 6 (w := (Int32.ofNat c1)) rfl (ls' := #[rv o1, iv i1, iv (Int32.ofNat c1), uu, uu, uu]) rfl ?_
  refine g_iloadN C X1 d48_6 7 rfl ?_
  refine g_aloadN C X1 d48_7 8 rfl rfl ?_
  refine g_getF C X1 (w_78 hw) Via.refl e1 F1 d48_8 11 (fun T2 X2 e2 => ?_)
  refine g_ishl C X2 d48_11 12 ?_
  refine g_istoreN C X2 d48_12 13 (w := (i1 <<< ((0 : Int32) &&& 31))) rfl (ls' := #[rv o1, iv i1, iv (Int32.ofNat c1), iv (i1 <<< ((0 : Int32) &&& 31)), uu, uu]) rfl ?_
  refine g_iloadN C X2 d48_13 14 rfl ?_
  refine g_iloadN C X2 d48_14 15 rfl ?_
  refine g_isub C X2 d48_15 16 ?_
  refine g_istore C X2 d48_16 18 (w := ((i1 <<< ((0 : Int32) &&& 31)) - (Int32.ofNat c1))) rfl (ls' := #[rv o1, iv i1, iv (Int32.ofNat c1), iv (i1 <<< ((0 : Int32) &&& 31)), iv ((i1 <<< ((0 : Int32) &&& 31)) - (Int32.ofNat c1)), uu]) rfl ?_
  refine g_iloadN C X2 d48_18 19 rfl ?_
  refine g_iload C X2 d48_19 21 rfl ?_
  refine g_iloadN C X2 d48_21 22 rfl ?_
  refine g_iconst C X2 d48_22 23 (v := 2) rfl ?_
  refine g_aloadN C X2 d48_23 24 rfl rfl ?_
  refine g_getF C X2 (w_78 hw) Via.refl e2 F1 d48_24 27 (fun T3 X3 e3 => ?_)
  refine g_ishl C X3 d48_27 28 ?_
  refine g_iadd C X3 d48_28 29 ?_
  refine g_callS0 C X3 (b_2 hw) d48_29 [(.int (Int32.ofNat c1)), (.int ((i1 <<< ((0 : Int32) &&& 31)) - (Int32.ofNat c1))), (.int ((Int32.ofNat c1) + ((2 : Int32) <<< ((0 : Int32) &&& 31))))] [] 0 (rm49 hw Z0 (cap_eq hi hcm hm) (cap_pos hcm hm) (cap_soft hcm hm)) N0 pd_4 e3 32 (fun T4 _ X4 N4 e4 => ?_)
  refine g_istore C X4 d48_32 34 (w := (Int32.ofNat (capN c1 m1))) rfl (ls' := #[rv o1, iv i1, iv (Int32.ofNat c1), iv (i1 <<< ((0 : Int32) &&& 31)), iv ((i1 <<< ((0 : Int32) &&& 31)) - (Int32.ofNat c1)), iv (Int32.ofNat (capN c1 m1))]) rfl ?_
  refine g_iload C X4 d48_34 36 rfl ?_
  refine g_ldc C X4 (w_260 hw) d48_36 38 ?_
  refine g_icmp_ne C X4 d48_38 51 41 (fun hc38 => ?_) (fun hc38 => absurd hc38 (cap_ne hcm hm))
  refine g_iload C X4 d48_51 53 rfl ?_
  refine g_aloadN C X4 d48_53 54 rfl rfl ?_
  refine g_getF C X4 (w_78 hw) Via.refl e4 F1 d48_54 57 (fun T5 X5 e5 => ?_)
  refine g_ishr C X5 d48_57 58 ?_
  exact g_retI C X5 K d48_58 (by decide) (by decide) e5 ⟨(by rw [own_shr0]), N4, rfl⟩
theorem ef_51ri (m : MethodId) (a1 : Addr) (a2 : Int32) : entryFrame m #[(.ref a1), (.int a2)] 3 = mkF m 0 #[rv a1, iv a2, uu] [] := by first | (simp [entryFrame, mkF, argsToLocals, Value.category, iv, rv, jv, nv, uu, sd]; done) | rfl
theorem d51_0 : decode jdk_65_method_121_code 0 = .ok (.iload_n 1, 1) := by decide +kernel
theorem d51_1 : decode jdk_65_method_121_code 1 = .ok (.aload_n 0, 1) := by decide +kernel
theorem d51_2 : decode jdk_65_method_121_code 2 = .ok (.arraylength, 1) := by decide +kernel
theorem d51_3 : decode jdk_65_method_121_code 3 = .ok (.if_icmp .ne 11, 3) := by decide +kernel
theorem d51_14 : decode jdk_65_method_121_code 14 = .ok (.iload_n 1, 1) := by decide +kernel
theorem d51_15 : decode jdk_65_method_121_code 15 = .ok (.newarray .byte, 2) := by decide +kernel
theorem d51_17 : decode jdk_65_method_121_code 17 = .ok (.astore_n 2, 1) := by decide +kernel
theorem d51_18 : decode jdk_65_method_121_code 18 = .ok (.aload_n 0, 1) := by decide +kernel
theorem d51_19 : decode jdk_65_method_121_code 19 = .ok (.iconst 0, 1) := by decide +kernel
theorem d51_20 : decode jdk_65_method_121_code 20 = .ok (.aload_n 2, 1) := by decide +kernel
theorem d51_21 : decode jdk_65_method_121_code 21 = .ok (.iconst 0, 1) := by decide +kernel
theorem d51_22 : decode jdk_65_method_121_code 22 = .ok (.aload_n 0, 1) := by decide +kernel
theorem d51_23 : decode jdk_65_method_121_code 23 = .ok (.arraylength, 1) := by decide +kernel
theorem d51_24 : decode jdk_65_method_121_code 24 = .ok (.iload_n 1, 1) := by decide +kernel
theorem d51_25 : decode jdk_65_method_121_code 25 = .ok (.invokestatic 304, 3) := by decide +kernel
theorem w_189 (hw : OwnW a0 Z) : Cond.before (.code ⟨"java/lang/Math", "min", "(II)I"⟩ jdk_29_method_69_code (2 : Nat) (Option.some Jvm.ClassFile.FieldType.int)) a0 Z = true := wA hw 189 rfl
theorem w_186 (hw : OwnW a0 Z) : Cond.before (.methodLink "java/util/Arrays" (304 : Nat) ⟨"java/lang/Math", "min", "(II)I"⟩) a0 Z = true := wA hw 186 rfl
theorem w_187 (hw : OwnW a0 Z) : Cond.before (.static ⟨"java/lang/Math", "min", "(II)I"⟩) a0 Z = true := wA hw 187 rfl
theorem b_3 (hw : OwnW a0 Z) : CallS "java/util/Arrays" 304 (⟨"java/lang/Math", "min", "(II)I"⟩ : MethodName) jdk_29_method_69_code (2 : Nat) (Option.some Jvm.ClassFile.FieldType.int) a0 Z := ⟨(w_186 hw), (w_187 hw), (w_188 hw), (w_189 hw)⟩
theorem d51_28 : decode jdk_65_method_121_code 28 = .ok (.invokestatic 150, 3) := by decide +kernel
theorem w_190 (hw : OwnW a0 Z) : Cond.before (.methodLink "java/util/Arrays" (150 : Nat) ⟨"java/lang/System", "arraycopy", "(Ljava/lang/Object;ILjava/lang/Object;II)V"⟩) a0 Z = true := wA hw 190 rfl
theorem w_126 (hw : OwnW a0 Z) : Cond.before (.native ⟨"java/lang/System", "arraycopy", "(Ljava/lang/Object;ILjava/lang/Object;II)V"⟩) a0 Z = true := wA hw 126 rfl
theorem w_124 (hw : OwnW a0 Z) : Cond.before (.static ⟨"java/lang/System", "arraycopy", "(Ljava/lang/Object;ILjava/lang/Object;II)V"⟩) a0 Z = true := wA hw 124 rfl
theorem w_125 (hw : OwnW a0 Z) : Cond.before (.initialized "java/lang/System") a0 Z = true := wA hw 125 rfl
theorem d51_31 : decode jdk_65_method_121_code 31 = .ok (.aload_n 2, 1) := by decide +kernel
theorem d51_32 : decode jdk_65_method_121_code 32 = .ok (.areturn, 1) := by decide +kernel
def Q51 (Z : State) (o1 : Addr) (i1 : Int32) (kd1 : ClassId) (c1 : Nat) (m1 : Nat) (l1 : List Int32) (h0 : Heap) (n0 : Nat) (v : Option Value) (h : Heap) (L : List Loc) : Prop := ∃ (o3 : Addr) (kd3 : ClassId), v = some (.ref o3) ∧ Fr n0 L ∧ h0.size ≤ o3 ∧ Keep h0 h [] ∧ Arv Z h o3 kd3 .byte (Int32.ofNat m1) (l1.map Value.int) (.int 0) ∧ Exa Z h o3 "[B"
abbrev y51 : MethodName := (⟨"java/util/Arrays", "copyOf", "([BI)[B"⟩ : MethodName)
theorem pn_32 : plainName "java/util/Arrays" = true := by first | (simp [plainName, overriddenIn]; done) | decide +kernel
theorem rm51 {o1 : Addr} {i1 : Int32} {kd1 : ClassId} {c1 m1 : Nat} {l1 : List Int32} (hw : OwnW a0 Z) (Z0 : n0 ≤ h0.size) (F0 : Arv Z h0 o1 kd1 .byte (Int32.ofNat c1) (l1.map Value.int) (.int 0)) (hi : Int32.ofNat m1 = i1) (hcm : c1 < m1) (hm : m1 ≤ 90) (hll : l1.length ≤ c1) : OwnMF l Z y51 jdk_65_method_121_code 3 (some (.array .byte)) ws ⟨1, 1, 90, 18⟩ #[(.ref o1), (.int i1)] h0 (Q51 Z o1 i1 kd1 c1 m1 l1 h0 n0) := by
  refine bo (plainFor_of_name pn_32) ?_
  intro p e s m below meth c T0 G C hnm hnamed X0 e0 K
  have N0 := Fr.nil n0
  refine Goes.to (congrArg T0.setTop (ef_51ri m o1 i1)) ?_
  have K00 := Keep.refl h0 []
  refine g_iloadN C X0 d51_0 1 rfl ?_
  refine g_aloadN C X0 d51_1 2 rfl rfl ?_
  refine g_arraylength C X0 e0 F0 d51_2 3 ?_
  refine g_icmp_ne C X0 d51_3 14 6 (fun hc3 => ?_) (fun hc3 => absurd hc3 (cp_ne hi hcm hm))
  refine g_iloadN C X0 d51_14 15 rfl ?_
  refine g_newAE (aty := .byte) (n := i1) C X0 (cap := 90) (w_14 hw) rfl e0 d51_15 17 (cp_n hi hm) (cp_cap hi hm) (by decide) (by decide) (by decide) (fun T1 h1 b1 ki1 X1 e1 g1 E1 A1 U1 => ?_)
  have f3 := F0.ext E1
  have gn_b1 : n0 ≤ b1 := Nat.le_trans Z0 (Nat.le_of_eq g1.symm)
  have Z1 := Nat.le_trans Z0 E1.1
  have sz_b1 : h0.size ≤ b1 := Nat.le_trans K00.1 (Nat.le_of_eq g1.symm)
  have K1 := K00.ext E1
  have f4 : Arv Z h1 b1 ki1 .byte (Int32.ofNat m1) [] (.int 0) := hi.symm ▸ A1
  refine g_astoreN C X1 d51_17 18 rfl (ls' := #[rv o1, iv i1, rv b1]) rfl ?_
  refine g_aloadN C X1 d51_18 19 rfl rfl ?_
  refine g_iconst C X1 d51_19 20 (v := 0) rfl ?_
  refine g_aloadN C X1 d51_20 21 rfl rfl ?_
  refine g_iconst C X1 d51_21 22 (v := 0) rfl ?_
  refine g_aloadN C X1 d51_22 23 rfl rfl ?_
  refine g_arraylength C X1 e1 f3 d51_23 24 ?_
  refine g_iloadN C X1 d51_24 25 rfl ?_
  refine g_callS0 C X1 (b_3 hw) d51_25 [(.int (Int32.ofNat c1)), (.int i1)] [(.int 0), (.ref b1), (.int 0), (.ref o1)] 4 (rm35 hw Z1) N0 pd_3 e1 28 (fun T5 _ X5 N5 e5 => ?_)
  have fb := f4.pad (pad_rep [] (.int 0) m1)
  refine g_acopy C X5 (w_190 hw) (w_126 hw) (w_124 hw) (w_125 hw) e5 f3 fb rfl (by decide) (by decide) (cp_nn hi hcm hm) (cp_h4 hi hcm hm) (cp_h5 hi hcm hm) rfl (cp_hl hi hcm hm) rfl N5 gn_b1 rfl d51_28 31 (by decide) (W := 0) (Nat.le_of_eq rfl) (by decide) (fun T6 h6 L6 X6 e6 N6 Kq6 V6 => ?_)
  have f7 : Arv Z h6 b1 ki1 .byte (Int32.ofNat m1) (l1.map Value.int) (.int 0) := V6.pad (raw_copy rfl rfl (cp_ll hi hcm hm hll))
  have f9 := U1.keep Kq6
  have K6 := K1.trans Kq6 (allS (Or.inr sz_b1) all0)
  refine g_aloadN C X6 d51_31 32 rfl rfl ?_
  exact g_retA C X6 K rfl rfl rfl d51_32 (by decide) (by decide) e6 ⟨b1, ki1, rfl, N6, sz_b1, K6, f7, f9⟩
theorem ens_iff {c m : Nat} {i : Int32} (hi : Int32.ofNat m = i) (hm : m ≤ 45) (hc : c ≤ 90) : (0 : Int32) < i - (Int32.ofNat c >>> ((0 : Int32) &&& 31)) ↔ c < m := by
  subst hi
  rw [own_shr0, Int32.lt_iff_toInt_lt, Int32.toInt_sub, i_toInt _ (by omega), i_toInt _ (by omega), Int.bmod_eq_of_le (by omega) (by omega)]
  show (0 : Int) < _ ↔ _
  omega
theorem ens_lt {c m : Nat} {i : Int32} (hi : Int32.ofNat m = i) (hm : m ≤ 45) (hc : c ≤ 90) (h : (0 : Int32) < i - (Int32.ofNat c >>> ((0 : Int32) &&& 31))) : c < m := (ens_iff hi hm hc).mp h
theorem ens_ge {c m : Nat} {i : Int32} (hi : Int32.ofNat m = i) (hm : m ≤ 45) (hc : c ≤ 90) (h : ¬ (0 : Int32) < i - (Int32.ofNat c >>> ((0 : Int32) &&& 31))) : m ≤ c := Nat.le_of_not_lt fun q => h ((ens_iff hi hm hc).mpr q)
theorem ens_grow {c m : Nat} {i : Int32} (hi : Int32.ofNat m = i) (hm : m ≤ 45) (hc : c ≤ 90) (h : (0 : Int32) < i - (Int32.ofNat c >>> ((0 : Int32) &&& 31))) : m ≤ capN c m ∧ capN c m ≤ 90 := by
  have := ens_lt hi hm hc h; unfold capN; omega
theorem ens_cap {c m : Nat} {i : Int32} (hi : Int32.ofNat m = i) (hm : m ≤ 45) (hc : c ≤ 90) (h : (0 : Int32) < i - (Int32.ofNat c >>> ((0 : Int32) &&& 31))) : c < capN c m := by
  have := ens_lt hi hm hc h; unfold capN; omega

theorem ef_17ri (m : MethodId) (a1 : Addr) (a2 : Int32) : entryFrame m #[(.ref a1), (.int a2)] 3 = mkF m 0 #[rv a1, iv a2, uu] [] := by first | (simp [entryFrame, mkF, argsToLocals, Value.category, iv, rv, jv, nv, uu, sd]; done) | rfl
theorem d17_0 : decode jdk_68_method_9_code 0 = .ok (.aload_n 0, 1) := by decide +kernel
theorem d17_1 : decode jdk_68_method_9_code 1 = .ok (.getfield 15, 3) := by decide +kernel
theorem d17_4 : decode jdk_68_method_9_code 4 = .ok (.arraylength, 1) := by decide +kernel
theorem d17_5 : decode jdk_68_method_9_code 5 = .ok (.aload_n 0, 1) := by decide +kernel
theorem d17_6 : decode jdk_68_method_9_code 6 = .ok (.getfield 22, 3) := by decide +kernel
theorem d17_9 : decode jdk_68_method_9_code 9 = .ok (.ishr, 1) := by decide +kernel
theorem d17_10 : decode jdk_68_method_9_code 10 = .ok (.istore_n 2, 1) := by decide +kernel
theorem d17_11 : decode jdk_68_method_9_code 11 = .ok (.iload_n 1, 1) := by decide +kernel
theorem d17_12 : decode jdk_68_method_9_code 12 = .ok (.iload_n 2, 1) := by decide +kernel
theorem d17_13 : decode jdk_68_method_9_code 13 = .ok (.isub, 1) := by decide +kernel
theorem d17_14 : decode jdk_68_method_9_code 14 = .ok (.ifCond .le 24, 3) := by decide +kernel
theorem d17_38 : decode jdk_68_method_9_code 38 = .ok (.return_, 1) := by decide +kernel
theorem d17_17 : decode jdk_68_method_9_code 17 = .ok (.aload_n 0, 1) := by decide +kernel
theorem d17_18 : decode jdk_68_method_9_code 18 = .ok (.aload_n 0, 1) := by decide +kernel
theorem d17_19 : decode jdk_68_method_9_code 19 = .ok (.getfield 15, 3) := by decide +kernel
theorem d17_22 : decode jdk_68_method_9_code 22 = .ok (.aload_n 0, 1) := by decide +kernel
theorem d17_23 : decode jdk_68_method_9_code 23 = .ok (.iload_n 1, 1) := by decide +kernel
theorem d17_24 : decode jdk_68_method_9_code 24 = .ok (.invokevirtual 104, 3) := by decide +kernel
theorem w_251 (hw : OwnW a0 Z) : Cond.before (.code ⟨"java/lang/AbstractStringBuilder", "newCapacity", "(I)I"⟩ jdk_68_method_10_code (6 : Nat) (Option.some Jvm.ClassFile.FieldType.int)) a0 Z = true := wA hw 251 rfl
theorem w_247 (hw : OwnW a0 Z) : Cond.before (.methodLink "java/lang/AbstractStringBuilder" (104 : Nat) ⟨"java/lang/AbstractStringBuilder", "newCapacity", "(I)I"⟩) a0 Z = true := wA hw 247 rfl
theorem pd_5 : parseMethodDescriptor "(I)I" = some ⟨[.int], some .int⟩ := by decide +kernel
theorem w_248 (hw : OwnW a0 Z) : Cond.before (.instanceMethod ⟨"java/lang/AbstractStringBuilder", "newCapacity", "(I)I"⟩) a0 Z = true := wA hw 248 rfl
theorem w_250 (hw : OwnW a0 Z) : Cond.before (.selects "java/lang/StringBuilder" ⟨"java/lang/AbstractStringBuilder", "newCapacity", "(I)I"⟩ ⟨"java/lang/AbstractStringBuilder", "newCapacity", "(I)I"⟩) a0 Z = true := wA hw 250 rfl
theorem b_4 (hw : OwnW a0 Z) : CallV "java/lang/AbstractStringBuilder" 104 (⟨"java/lang/AbstractStringBuilder", "newCapacity", "(I)I"⟩ : MethodName) "java/lang/StringBuilder" jdk_68_method_10_code (6 : Nat) (Option.some Jvm.ClassFile.FieldType.int) a0 Z := ⟨(w_247 hw), (declares_of (w_248 hw) (w_251 hw)), (w_250 hw), (w_248 hw), (w_251 hw), (w_72 hw)⟩
theorem d17_27 : decode jdk_68_method_9_code 27 = .ok (.aload_n 0, 1) := by decide +kernel
theorem d17_28 : decode jdk_68_method_9_code 28 = .ok (.getfield 22, 3) := by decide +kernel
theorem d17_31 : decode jdk_68_method_9_code 31 = .ok (.ishl, 1) := by decide +kernel
theorem d17_32 : decode jdk_68_method_9_code 32 = .ok (.invokestatic 108, 3) := by decide +kernel
theorem w_263 (hw : OwnW a0 Z) : Cond.before (.code ⟨"java/util/Arrays", "copyOf", "([BI)[B"⟩ jdk_65_method_121_code (3 : Nat) (Option.some (Jvm.ClassFile.FieldType.array Jvm.ClassFile.FieldType.byte))) a0 Z = true := wA hw 263 rfl
theorem w_178 (hw : OwnW a0 Z) : Cond.before (.initialized "java/util/Arrays") a0 Z = true := wA hw 178 rfl
theorem w_261 (hw : OwnW a0 Z) : Cond.before (.methodLink "java/lang/AbstractStringBuilder" (108 : Nat) ⟨"java/util/Arrays", "copyOf", "([BI)[B"⟩) a0 Z = true := wA hw 261 rfl
theorem pd_6 : parseMethodDescriptor "([BI)[B" = some ⟨[(.array .byte), .int], some (.array .byte)⟩ := by decide +kernel
theorem w_262 (hw : OwnW a0 Z) : Cond.before (.static ⟨"java/util/Arrays", "copyOf", "([BI)[B"⟩) a0 Z = true := wA hw 262 rfl
theorem d17_35 : decode jdk_68_method_9_code 35 = .ok (.putfield 15, 3) := by decide +kernel
def Q17 (Z : State) (o1 : Addr) (i1 : Int32) (o2 : Addr) (kd1 : ClassId) (c1 : Nat) (m1 : Nat) (l1 : List Int32) (ct1 : Int32) (h0 : Heap) (n0 : Nat) (v : Option Value) (h : Heap) (L : List Loc) : Prop := ∃ (o3 : Addr) (kd3 : ClassId) (c3 : Nat), v = none ∧ Fr n0 L ∧ (o3 = o2 ∨ h0.size ≤ o3) ∧ Keep h0 h [o1] ∧ Fld Z h o1 "java/lang/AbstractStringBuilder" "value" "[B" (.ref o3) ∧ Fld Z h o1 "java/lang/AbstractStringBuilder" "coder" "B" (.int 0) ∧ Fld Z h o1 "java/lang/AbstractStringBuilder" "count" "I" (.int ct1) ∧ Arv Z h o3 kd3 .byte (Int32.ofNat c3) (l1.map Value.int) (.int 0) ∧ Exa Z h o3 "[B" ∧ m1 ≤ c3 ∧ c3 ≤ 90
abbrev y17 : MethodName := (⟨"java/lang/AbstractStringBuilder", "ensureCapacityInternal", "(I)V"⟩ : MethodName)
theorem rm17 {o1 o2 : Addr} {i1 ct1 : Int32} {kd1 : ClassId} {c1 m1 : Nat} {l1 : List Int32} (hw : OwnW a0 Z) (Z0 : n0 ≤ h0.size) (F0 : Exa Z h0 o1 "java/lang/StringBuilder") (F1 : Fld Z h0 o1 "java/lang/AbstractStringBuilder" "value" "[B" (.ref o2)) (F2 : Fld Z h0 o1 "java/lang/AbstractStringBuilder" "coder" "B" (.int 0)) (F3 : Fld Z h0 o1 "java/lang/AbstractStringBuilder" "count" "I" (.int ct1)) (F4 : Arv Z h0 o2 kd1 .byte (Int32.ofNat c1) (l1.map Value.int) (.int 0)) (F5 : Exa Z h0 o2 "[B") (gn_o1 : n0 ≤ o1) (hi : Int32.ofNat m1 = i1) (hm : m1 ≤ 45) (hc : c1 ≤ 90) (hll : l1.length ≤ c1) (ne_o1_o2 : o1 ≠ o2) : OwnMF l Z y17 jdk_68_method_9_code 3 none ws ⟨3, 1, 90, 48⟩ #[(.ref o1), (.int i1)] h0 (Q17 Z o1 i1 o2 kd1 c1 m1 l1 ct1 h0 n0) := by
  refine bo (plainFor_of_name pn_12) ?_
  intro p e s m below meth c T0 G C hnm hnamed X0 e0 K
  have N0 := Fr.nil n0
  refine Goes.to (congrArg T0.setTop (ef_17ri m o1 i1)) ?_
  have K00 := Keep.refl h0 [o1]
  refine g_aloadN C X0 d17_0 1 rfl rfl ?_
  refine g_getF C X0 (w_76 hw) Via.refl e0 F1 d17_1 4 (fun T1 X1 e1 => ?_)
  refine g_arraylength C X1 e1 F4 d17_4 5 ?_
  refine g_aloadN C X1 d17_5 6 rfl rfl ?_
  refine g_getF C X1 (w_78 hw) Via.refl e1 F2 d17_6 9 (fun T2 X2 e2 => ?_)
  refine g_ishr C X2 d17_9 10 ?_
  refine g_istoreN C X2 d17_10 11 (w := ((Int32.ofNat c1) >>> ((0 : Int32) &&& 31))) rfl (ls' := #[rv o1, iv i1, iv ((Int32.ofNat c1) >>> ((0 : Int32) &&& 31))]) rfl ?_
  refine g_iloadN C X2 d17_11 12 rfl ?_
  refine g_iloadN C X2 d17_12 13 rfl ?_
  refine g_isub C X2 d17_13 14 ?_
  refine g_if_le C X2 d17_14 38 17 (fun hc14 => ?_) (fun hc14 => ?_)
  · exact g_retV C X2 K d17_38 (by decide) (by decide) e2 ⟨o2, kd1, c1, rfl, N0, (Or.inl rfl), K00, F1, F2, F3, F4, F5, (ens_ge hi hm hc hc14), hc⟩
  · refine g_aloadN C X2 d17_17 18 rfl rfl ?_
    refine g_aloadN C X2 d17_18 19 rfl rfl ?_
    refine g_getF C X2 (w_76 hw) Via.refl e2 F1 d17_19 22 (fun T3 X3 e3 => ?_)
    refine g_aloadN C X3 d17_22 23 rfl rfl ?_
    refine g_iloadN C X3 d17_23 24 rfl ?_
    refine g_callV0 C X3 (b_4 hw) F0 d17_24 [(.int i1)] [(.ref o2), (.ref o1)] 2 (rm48 hw Z0 F1 F2 F4 hi (ens_lt hi hm hc hc14) (Nat.le_trans hm (by decide))) N0 pd_5 e3 27 (fun T4 _ X4 N4 e4 => ?_)
    refine g_aloadN C X4 d17_27 28 rfl rfl ?_
    refine g_getF C X4 (w_78 hw) Via.refl e4 F2 d17_28 31 (fun T5 X5 e5 => ?_)
    refine g_ishl C X5 d17_31 32 ?_
    refine g_callS C X5 (w_261 hw) (w_262 hw) (w_178 hw) (w_263 hw) d17_32 [(.ref o2), (.int ((Int32.ofNat (capN c1 m1)) <<< ((0 : Int32) &&& 31)))] [(.ref o1)] 1 (rm51 hw Z0 F4 (own_shl0 _).symm (ens_cap hi hm hc hc14) (ens_grow hi hm hc hc14).2 hll) pd_6 e5 35 (fun u6 T6 L6 X6 hQ6 => ?_)
    obtain ⟨o36, kd36, rfl, Nq6, szo36, Kq6, q6_0, q6_1⟩ := hQ6
    have N6 := Fr.app N4 Nq6
    have n7 : o1 ≠ o36 := Nat.ne_of_lt (Nat.lt_of_lt_of_le F0.lt szo36)
    have f9 := F0.keep Kq6
    have f10 := F1.keep Kq6 nin0
    have f11 := F2.keep Kq6 nin0
    have f12 := F3.keep Kq6 nin0
    have sz_o36 : h0.size ≤ o36 := Nat.le_trans K00.1 szo36
    have K6 := K00.trans Kq6 all0
    refine ret1 ?_
    refine g_putF C X6 (w_76 hw) Via.refl rfl f10 f9 (Or.inl (w_77 hw)) (w_63 hw) (ty := (.array .byte)) (by decide) rfl rfl d17_35 38 (fun T15 h15 X15 e15 W15 => ?_)
    have f17 := f10.same W15
    have f18 := f11.other W15 (Or.inr (slot_ne (Or.inl (w_79 hw)) (Or.inl (w_77 hw)) (by decide) (t := .byte) (t' := (.array .byte)) (by decide) (by decide)))
    have f19 := f12.other W15 (Or.inr (slot_ne (Or.inl (w_101 hw)) (Or.inl (w_77 hw)) (by decide) (t := .int) (t' := (.array .byte)) (by decide) (by decide)))
    have f22 := q6_0.other W15 (Ne.symm n7)
    have f23 := q6_1.wr W15
    have N15 := Fr.snoc X15 N6 gn_o1
    have K15 := K6.wr W15 (Or.inl (List.mem_of_getElem? (i := 0) rfl))
    exact g_retV C X15 K d17_38 (by decide) (by decide) e15 ⟨o36, kd36, (capN c1 m1), rfl, N15, (Or.inr sz_o36), K15, f17, f18, f19, f22, f23, (ens_grow hi hm hc hc14).1, (ens_grow hi hm hc hc14).2⟩
theorem app_len (l x : List Int32) : Int32.ofNat (l ++ x).length = Int32.ofNat l.length + Int32.ofNat x.length := by rw [List.length_append, i_add]
theorem gb_t {l : List Int32} {i : Int32} {c : Nat} (hi : Int32.ofNat l.length = i) (h : l.length ≤ c) (hc : c ≤ 90) : (i <<< ((0 : Int32) &&& 31)).toNatClampNeg = l.length := by subst hi; rw [own_shl0, i_toNat _ (by omega)]
theorem gb_h2 {l : List Int32} {i : Int32} {c : Nat} (hi : Int32.ofNat l.length = i) (h : l.length ≤ c) (hc : c ≤ 90) : ¬ (i <<< ((0 : Int32) &&& 31)) < 0 := by subst hi; rw [own_shl0]; exact i_nn _ (by omega)
theorem gb_n {x : List Int32} (h : x.length ≤ 90) : (Int32.ofNat x.length).toNatClampNeg = x.length := i_toNat _ (by omega)
theorem gb_h4 {x : List Int32} : (0 : Int32).toNatClampNeg + (Int32.ofNat x.length).toNatClampNeg ≤ (Int32.ofNat x.length).toNatClampNeg := by show 0 + _ ≤ _; omega
theorem gb_h5 {l x : List Int32} {i : Int32} {c : Nat} (hi : Int32.ofNat l.length = i) (hf : l.length + x.length ≤ c) (hc : c ≤ 90) : (i <<< ((0 : Int32) &&& 31)).toNatClampNeg + (Int32.ofNat x.length).toNatClampNeg ≤ (Int32.ofNat c).toNatClampNeg := by
  rw [gb_t hi (by omega) hc, gb_n (by omega), i_toNat c (by omega)]; exact hf
theorem gb_hl {l x : List Int32} {i : Int32} {c : Nat} (hi : Int32.ofNat l.length = i) (hf : l.length + x.length ≤ c) (hc : c ≤ 90) : (i <<< ((0 : Int32) &&& 31)).toNatClampNeg + (Int32.ofNat x.length).toNatClampNeg ≤ (l.map Value.int ++ List.replicate x.length (Value.int 0)).length := by
  rw [gb_t hi (by omega) hc, gb_n (by omega)]; simp
theorem raw_app {l x : List Int32} {sp dp nn : Nat} (hs : sp = 0) (hd : dp = l.length) (hn : nn = x.length) : ∀ k, ((l ++ x).map Value.int).getD k (.int 0) = (((l.map Value.int ++ List.replicate x.length (Value.int 0)).take dp ++ (List.range nn).map (fun i => (x.map Value.int).getD (sp + i) (.int 0)) ++ (l.map Value.int ++ List.replicate x.length (Value.int 0)).drop (dp + nn)).getD k (.int 0)) := by
  intro k
  subst hs hd hn
  have e1 : (l.map Value.int ++ List.replicate x.length (Value.int 0)).take l.length = l.map Value.int := by
    rw [List.take_append_of_le_length (by simp), List.take_of_length_le (by simp)]
  have e2 : (l.map Value.int ++ List.replicate x.length (Value.int 0)).drop (l.length + x.length) = [] := List.drop_of_length_le (by simp)
  have e3 : (List.range x.length).map (fun i => (x.map Value.int).getD (0 + i) (.int 0)) = x.map Value.int := by
    apply List.ext_getElem (by simp)
    intro i h1 h2
    simp only [List.length_map, List.length_range] at h1
    simp [h1]
  rw [e1, e2, e3, List.append_nil, List.map_append]

theorem ef_20rrii (m : MethodId) (a1 : Addr) (a2 : Addr) (a3 : Int32) (a4 : Int32) : entryFrame m #[(.ref a1), (.ref a2), (.int a3), (.int a4)] 4 = mkF m 0 #[rv a1, rv a2, iv a3, iv a4] [] := by first | (simp [entryFrame, mkF, argsToLocals, Value.category, iv, rv, jv, nv, uu, sd]; done) | rfl
theorem d20_0 : decode jdk_42_method_147_code 0 = .ok (.aload_n 0, 1) := by decide +kernel
theorem d20_1 : decode jdk_42_method_147_code 1 = .ok (.invokevirtual 335, 3) := by decide +kernel
theorem d20_4 : decode jdk_42_method_147_code 4 = .ok (.iload_n 3, 1) := by decide +kernel
theorem d20_5 : decode jdk_42_method_147_code 5 = .ok (.if_icmp .ne 23, 3) := by decide +kernel
theorem d20_8 : decode jdk_42_method_147_code 8 = .ok (.aload_n 0, 1) := by decide +kernel
theorem d20_9 : decode jdk_42_method_147_code 9 = .ok (.getfield 9, 3) := by decide +kernel
theorem d20_12 : decode jdk_42_method_147_code 12 = .ok (.iconst 0, 1) := by decide +kernel
theorem d20_13 : decode jdk_42_method_147_code 13 = .ok (.aload_n 1, 1) := by decide +kernel
theorem d20_14 : decode jdk_42_method_147_code 14 = .ok (.iload_n 2, 1) := by decide +kernel
theorem d20_15 : decode jdk_42_method_147_code 15 = .ok (.iload_n 3, 1) := by decide +kernel
theorem d20_16 : decode jdk_42_method_147_code 16 = .ok (.ishl, 1) := by decide +kernel
theorem d20_17 : decode jdk_42_method_147_code 17 = .ok (.aload_n 0, 1) := by decide +kernel
theorem d20_18 : decode jdk_42_method_147_code 18 = .ok (.getfield 9, 3) := by decide +kernel
theorem d20_21 : decode jdk_42_method_147_code 21 = .ok (.arraylength, 1) := by decide +kernel
theorem d20_22 : decode jdk_42_method_147_code 22 = .ok (.invokestatic 212, 3) := by decide +kernel
theorem w_123 (hw : OwnW a0 Z) : Cond.before (.methodLink "java/lang/String" (212 : Nat) ⟨"java/lang/System", "arraycopy", "(Ljava/lang/Object;ILjava/lang/Object;II)V"⟩) a0 Z = true := wA hw 123 rfl
theorem d20_25 : decode jdk_42_method_147_code 25 = .ok (.goto 18, 3) := by decide +kernel
theorem d20_43 : decode jdk_42_method_147_code 43 = .ok (.return_, 1) := by decide +kernel
def Q20 (Z : State) (o5 : Addr) (o2 : Addr) (i1 : Int32) (o6 : Addr) (kd1 : ClassId) (kd5 : ClassId) (c1 : Nat) (l1 : List Int32) (l5 : List Int32) (cs1 : Int32) (h0 : Heap) (n0 : Nat) (v : Option Value) (h : Heap) (L : List Loc) : Prop := v = none ∧ Fr n0 L ∧ Keep h0 h [o2] ∧ Arv Z h o2 kd1 .byte (Int32.ofNat c1) ((l1 ++ l5).map Value.int) (.int 0)
abbrev y20 : MethodName := (⟨"java/lang/String", "getBytes", "([BIB)V"⟩ : MethodName)
theorem rm20 {o5 o2 o6 : Addr} {i1 cs1 : Int32} {kd1 kd5 : ClassId} {c1 : Nat} {l1 l5 : List Int32} (hw : OwnW a0 Z) (Z0 : n0 ≤ h0.size) (F0 : OEs Z h0 o5) (F1 : OFv Z h0 o5 (.ref o6)) (F2 : OFc Z h0 o5) (F3 : Arv Z h0 o6 kd5 .byte (Int32.ofNat l5.length) (l5.map Value.int) (.int 0)) (F4 : Arv Z h0 o2 kd1 .byte (Int32.ofNat c1) (l1.map Value.int) (.int 0)) (F5 : OSc Z h0 cs1) (gn_o2 : n0 ≤ o2) (hcs : ¬ cs1 = (0 : Int32)) (hi : Int32.ofNat l1.length = i1) (hf : l1.length + l5.length ≤ c1) (hc : c1 ≤ 90) (ne_o2_o6 : o2 ≠ o6) (ne_o2_o5 : o2 ≠ o5) : OwnMF l Z y20 jdk_42_method_147_code 4 none ws ⟨1, 0, 0, 18⟩ #[(.ref o5), (.ref o2), (.int i1), (.int 0)] h0 (Q20 Z o5 o2 i1 o6 kd1 kd5 c1 l1 l5 cs1 h0 n0) := by
  refine bo (plainFor_of_name pn_1) ?_
  intro p e s m below meth c T0 G C hnm hnamed X0 e0 K
  have N0 := Fr.nil n0
  refine Goes.to (congrArg T0.setTop (ef_20rrii m o5 o2 i1 (0 : Int32))) ?_
  have K00 := Keep.refl h0 [o2]
  refine g_aloadN C X0 d20_0 1 rfl rfl ?_
  refine g_callV0 C X0 (b_0 hw) F0 d20_1 [] [] 0 (rm16 hw Z0 F2 F5 hcs) N0 pd_2 e0 4 (fun T1 _ X1 N1 e1 => ?_)
  refine g_iloadN C X1 d20_4 5 rfl ?_
  refine g_icmp_ne C X1 d20_5 28 8 (fun hc5 => absurd hc5 (by decide)) (fun hc5 => ?_)
  refine g_aloadN C X1 d20_8 9 rfl rfl ?_
  refine g_getF C X1 (w_22 hw) Via.refl e1 F1 d20_9 12 (fun T2 X2 e2 => ?_)
  refine g_iconst C X2 d20_12 13 (v := 0) rfl ?_
  refine g_aloadN C X2 d20_13 14 rfl rfl ?_
  refine g_iloadN C X2 d20_14 15 rfl ?_
  refine g_iloadN C X2 d20_15 16 rfl ?_
  refine g_ishl C X2 d20_16 17 ?_
  refine g_aloadN C X2 d20_17 18 rfl rfl ?_
  refine g_getF C X2 (w_22 hw) Via.refl e2 F1 d20_18 21 (fun T3 X3 e3 => ?_)
  refine g_arraylength C X3 e3 F3 d20_21 22 ?_
  have fb := F4.pad (pad_rep (l1.map Value.int) (.int 0) l5.length)
  refine g_acopy C X3 (w_123 hw) (w_126 hw) (w_124 hw) (w_125 hw) e3 F3 fb rfl (by decide) (gb_h2 hi (Nat.le_trans (Nat.le_add_right _ _) hf) hc) (i_nn _ (Nat.lt_of_le_of_lt (Nat.le_trans (Nat.le_trans (Nat.le_add_left _ _) hf) hc) (by decide))) gb_h4 (gb_h5 hi hf hc) rfl (gb_hl hi hf hc) rfl N1 gn_o2 rfl d20_22 25 (by decide) (W := 0) (Nat.le_of_eq rfl) (by decide) (fun T4 h4 L4 X4 e4 N4 Kq4 V4 => ?_)
  have f5 : Arv Z h4 o2 kd1 .byte (Int32.ofNat c1) ((l1 ++ l5).map Value.int) (.int 0) := V4.pad (raw_app rfl (gb_t hi (Nat.le_trans (Nat.le_add_right _ _) hf) hc) (gb_n (Nat.le_trans (Nat.le_trans (Nat.le_add_left _ _) hf) hc)))
  have K4 := K00.trans Kq4 (allS (Or.inl (List.mem_of_getElem? (i := 0) rfl)) all0)
  refine g_goto C X4 d20_25 43 ?_
  exact g_retV C X4 K d20_43 (by decide) (by decide) e4 ⟨rfl, N4, K4, f5⟩
theorem ef_19rr (m : MethodId) (a1 : Addr) (a2 : Addr) : entryFrame m #[(.ref a1), (.ref a2)] 2 = mkF m 0 #[rv a1, rv a2] [] := by first | (simp [entryFrame, mkF, argsToLocals, Value.category, iv, rv, jv, nv, uu, sd]; done) | rfl
theorem d19_0 : decode jdk_68_method_71_code 0 = .ok (.getstatic 18, 3) := by decide +kernel
theorem d19_3 : decode jdk_68_method_71_code 3 = .ok (.ifCond .eq 18, 3) := by decide +kernel
theorem d19_6 : decode jdk_68_method_71_code 6 = .ok (.aload_n 0, 1) := by decide +kernel
theorem d19_7 : decode jdk_68_method_71_code 7 = .ok (.getfield 22, 3) := by decide +kernel
theorem d19_10 : decode jdk_68_method_71_code 10 = .ok (.aload_n 1, 1) := by decide +kernel
theorem d19_11 : decode jdk_68_method_71_code 11 = .ok (.invokevirtual 40, 3) := by decide +kernel
theorem w_117 (hw : OwnW a0 Z) : Cond.before (.methodLink "java/lang/AbstractStringBuilder" (40 : Nat) ⟨"java/lang/String", "coder", "()B"⟩) a0 Z = true := wA hw 117 rfl
theorem b_5 (hw : OwnW a0 Z) : CallV "java/lang/AbstractStringBuilder" 40 (⟨"java/lang/String", "coder", "()B"⟩ : MethodName) "java/lang/String" jdk_42_method_152_code (1 : Nat) (Option.some Jvm.ClassFile.FieldType.byte) a0 Z := ⟨(w_117 hw), (w_96 hw), (w_98 hw), (w_97 hw), (w_99 hw), (w_2 hw)⟩
theorem d19_14 : decode jdk_68_method_71_code 14 = .ok (.if_icmp .eq 7, 3) := by decide +kernel
theorem d19_21 : decode jdk_68_method_71_code 21 = .ok (.return_, 1) := by decide +kernel
abbrev y19 : MethodName := (⟨"java/lang/AbstractStringBuilder", "inflateIfNeededFor", "(Ljava/lang/String;)V"⟩ : MethodName)
theorem rm19 {o1 o5 : Addr} {cs1 : Int32} (hw : OwnW a0 Z) (Z0 : n0 ≤ h0.size) (F0 : Exa Z h0 o1 "java/lang/StringBuilder") (F1 : Fld Z h0 o1 "java/lang/AbstractStringBuilder" "coder" "B" (.int 0)) (F2 : OEs Z h0 o5) (F3 : OFc Z h0 o5) (F4 : OSc Z h0 cs1) (hcs : ¬ cs1 = (0 : Int32)) : OwnMF l Z y19 jdk_68_method_71_code 2 none ws ⟨1, 0, 0, 13⟩ #[(.ref o1), (.ref o5)] h0 (OwnQ none h0 n0) := by
  refine bo (plainFor_of_name pn_12) ?_
  intro p e s m below meth c T0 G C hnm hnamed X0 e0 K
  have N0 := Fr.nil n0
  refine Goes.to (congrArg T0.setTop (ef_19rr m o1 o5)) ?_
  refine g_getS C X0 (w_75 hw) Via.refl e0 F4 d19_0 3 (fun T1 X1 e1 => ?_)
  refine g_if_eq C X1 d19_3 21 6 (fun hc3 => absurd hc3 hcs) (fun hc3 => ?_)
  refine g_aloadN C X1 d19_6 7 rfl rfl ?_
  refine g_getF C X1 (w_78 hw) Via.refl e1 F1 d19_7 10 (fun T2 X2 e2 => ?_)
  refine g_aloadN C X2 d19_10 11 rfl rfl ?_
  refine g_callV0 C X2 (b_5 hw) F2 d19_11 [] [(.int 0)] 1 (rm16 hw Z0 F3 F4 hcs) N0 pd_2 e2 14 (fun T3 _ X3 N3 e3 => ?_)
  refine g_icmp_eq C X3 d19_14 21 17 (fun hc14 => ?_) (fun hc14 => absurd hc14 (by decide))
  exact g_retV C X3 K d19_21 (by decide) (by decide) e3 ⟨rfl, N3, rfl⟩
theorem ef_18rir (m : MethodId) (a1 : Addr) (a2 : Int32) (a3 : Addr) : entryFrame m #[(.ref a1), (.int a2), (.ref a3)] 3 = mkF m 0 #[rv a1, iv a2, rv a3] [] := by first | (simp [entryFrame, mkF, argsToLocals, Value.category, iv, rv, jv, nv, uu, sd]; done) | rfl
theorem d18_0 : decode jdk_68_method_73_code 0 = .ok (.aload_n 0, 1) := by decide +kernel
theorem d18_1 : decode jdk_68_method_73_code 1 = .ok (.aload_n 2, 1) := by decide +kernel
theorem d18_2 : decode jdk_68_method_73_code 2 = .ok (.invokevirtual 397, 3) := by decide +kernel
theorem w_116 (hw : OwnW a0 Z) : Cond.before (.code ⟨"java/lang/AbstractStringBuilder", "inflateIfNeededFor", "(Ljava/lang/String;)V"⟩ jdk_68_method_71_code (2 : Nat) (Option.none : Option Jvm.ClassFile.FieldType)) a0 Z = true := wA hw 116 rfl
theorem w_112 (hw : OwnW a0 Z) : Cond.before (.methodLink "java/lang/AbstractStringBuilder" (397 : Nat) ⟨"java/lang/AbstractStringBuilder", "inflateIfNeededFor", "(Ljava/lang/String;)V"⟩) a0 Z = true := wA hw 112 rfl
theorem pd_7 : parseMethodDescriptor "(Ljava/lang/String;)V" = some ⟨[(.object "java/lang/String")], none⟩ := by decide +kernel
theorem w_113 (hw : OwnW a0 Z) : Cond.before (.instanceMethod ⟨"java/lang/AbstractStringBuilder", "inflateIfNeededFor", "(Ljava/lang/String;)V"⟩) a0 Z = true := wA hw 113 rfl
theorem w_115 (hw : OwnW a0 Z) : Cond.before (.selects "java/lang/StringBuilder" ⟨"java/lang/AbstractStringBuilder", "inflateIfNeededFor", "(Ljava/lang/String;)V"⟩ ⟨"java/lang/AbstractStringBuilder", "inflateIfNeededFor", "(Ljava/lang/String;)V"⟩) a0 Z = true := wA hw 115 rfl
theorem b_6 (hw : OwnW a0 Z) : CallV "java/lang/AbstractStringBuilder" 397 (⟨"java/lang/AbstractStringBuilder", "inflateIfNeededFor", "(Ljava/lang/String;)V"⟩ : MethodName) "java/lang/StringBuilder" jdk_68_method_71_code (2 : Nat) (Option.none : Option Jvm.ClassFile.FieldType) a0 Z := ⟨(w_112 hw), (declares_of (w_113 hw) (w_116 hw)), (w_115 hw), (w_113 hw), (w_116 hw), (w_72 hw)⟩
theorem d18_5 : decode jdk_68_method_73_code 5 = .ok (.aload_n 2, 1) := by decide +kernel
theorem d18_6 : decode jdk_68_method_73_code 6 = .ok (.aload_n 0, 1) := by decide +kernel
theorem d18_7 : decode jdk_68_method_73_code 7 = .ok (.getfield 15, 3) := by decide +kernel
theorem d18_10 : decode jdk_68_method_73_code 10 = .ok (.iload_n 1, 1) := by decide +kernel
theorem d18_11 : decode jdk_68_method_73_code 11 = .ok (.aload_n 0, 1) := by decide +kernel
theorem d18_12 : decode jdk_68_method_73_code 12 = .ok (.getfield 22, 3) := by decide +kernel
theorem d18_15 : decode jdk_68_method_73_code 15 = .ok (.invokevirtual 399, 3) := by decide +kernel
theorem w_122 (hw : OwnW a0 Z) : Cond.before (.code ⟨"java/lang/String", "getBytes", "([BIB)V"⟩ jdk_42_method_147_code (4 : Nat) (Option.none : Option Jvm.ClassFile.FieldType)) a0 Z = true := wA hw 122 rfl
theorem w_118 (hw : OwnW a0 Z) : Cond.before (.methodLink "java/lang/AbstractStringBuilder" (399 : Nat) ⟨"java/lang/String", "getBytes", "([BIB)V"⟩) a0 Z = true := wA hw 118 rfl
theorem pd_8 : parseMethodDescriptor "([BIB)V" = some ⟨[(.array .byte), .int, .byte], none⟩ := by decide +kernel
theorem w_121 (hw : OwnW a0 Z) : Cond.before (.selects "java/lang/String" ⟨"java/lang/String", "getBytes", "([BIB)V"⟩ ⟨"java/lang/String", "getBytes", "([BIB)V"⟩) a0 Z = true := wA hw 121 rfl
theorem w_119 (hw : OwnW a0 Z) : Cond.before (.declares ⟨"java/lang/String", "getBytes", "([BIB)V"⟩) a0 Z = true := wA hw 119 rfl
theorem w_120 (hw : OwnW a0 Z) : Cond.before (.instanceMethod ⟨"java/lang/String", "getBytes", "([BIB)V"⟩) a0 Z = true := wA hw 120 rfl
theorem d18_18 : decode jdk_68_method_73_code 18 = .ok (.return_, 1) := by decide +kernel
def Q18 (Z : State) (o1 : Addr) (i1 : Int32) (o5 : Addr) (o2 : Addr) (o6 : Addr) (kd1 : ClassId) (kd5 : ClassId) (c1 : Nat) (l1 : List Int32) (l5 : List Int32) (cs1 : Int32) (h0 : Heap) (n0 : Nat) (v : Option Value) (h : Heap) (L : List Loc) : Prop := v = none ∧ Fr n0 L ∧ Keep h0 h [o2] ∧ Arv Z h o2 kd1 .byte (Int32.ofNat c1) ((l1 ++ l5).map Value.int) (.int 0)
abbrev y18 : MethodName := (⟨"java/lang/AbstractStringBuilder", "putStringAt", "(ILjava/lang/String;)V"⟩ : MethodName)
theorem rm18 {o1 o5 o2 o6 : Addr} {i1 cs1 : Int32} {kd1 kd5 : ClassId} {c1 : Nat} {l1 l5 : List Int32} (hw : OwnW a0 Z) (Z0 : n0 ≤ h0.size) (F0 : Exa Z h0 o1 "java/lang/StringBuilder") (F1 : Fld Z h0 o1 "java/lang/AbstractStringBuilder" "value" "[B" (.ref o2)) (F2 : Fld Z h0 o1 "java/lang/AbstractStringBuilder" "coder" "B" (.int 0)) (F3 : OEs Z h0 o5) (F4 : OFv Z h0 o5 (.ref o6)) (F5 : OFc Z h0 o5) (F6 : Arv Z h0 o6 kd5 .byte (Int32.ofNat l5.length) (l5.map Value.int) (.int 0)) (F7 : Arv Z h0 o2 kd1 .byte (Int32.ofNat c1) (l1.map Value.int) (.int 0)) (F8 : OSc Z h0 cs1) (gn_o2 : n0 ≤ o2) (hcs : ¬ cs1 = (0 : Int32)) (hi : Int32.ofNat l1.length = i1) (hf : l1.length + l5.length ≤ c1) (hc : c1 ≤ 90) (ne_o2_o6 : o2 ≠ o6) (ne_o2_o5 : o2 ≠ o5) (ne_o1_o2 : o1 ≠ o2) : OwnMF l Z y18 jdk_68_method_73_code 3 none ws ⟨2, 0, 0, 33⟩ #[(.ref o1), (.int i1), (.ref o5)] h0 (Q18 Z o1 i1 o5 o2 o6 kd1 kd5 c1 l1 l5 cs1 h0 n0) := by
  refine bo (plainFor_of_name pn_12) ?_
  intro p e s m below meth c T0 G C hnm hnamed X0 e0 K
  have N0 := Fr.nil n0
  refine Goes.to (congrArg T0.setTop (ef_18rir m o1 i1 o5)) ?_
  have K00 := Keep.refl h0 [o2]
  refine g_aloadN C X0 d18_0 1 rfl rfl ?_
  refine g_aloadN C X0 d18_1 2 rfl rfl ?_
  refine g_callVn C X0 (b_6 hw) F0 d18_2 [(.ref o5)] [] 0 (rm19 hw Z0 F0 F2 F3 F5 F8 hcs) N0 pd_7 e0 5 (fun T1 _ X1 N1 e1 => ?_)
  refine g_aloadN C X1 d18_5 6 rfl rfl ?_
  refine g_aloadN C X1 d18_6 7 rfl rfl ?_
  refine g_getF C X1 (w_76 hw) Via.refl e1 F1 d18_7 10 (fun T2 X2 e2 => ?_)
  refine g_iloadN C X2 d18_10 11 rfl ?_
  refine g_aloadN C X2 d18_11 12 rfl rfl ?_
  refine g_getF C X2 (w_78 hw) Via.refl e2 F2 d18_12 15 (fun T3 X3 e3 => ?_)
  refine g_callV C X3 (w_118 hw) (w_119 hw) (notFace_of_selects (args := #[]) (mvT C.2.1 (w_121 hw))) (w_121 hw) (w_120 hw) (w_122 hw) (w_2 hw) F3 d18_15 [(.ref o2), (.int i1), (.int 0)] [] 0 (rm20 hw Z0 F3 F4 F5 F6 F7 F8 gn_o2 hcs hi hf hc ne_o2_o6 ne_o2_o5) pd_8 e3 18 (fun u4 T4 L4 X4 hQ4 => ?_)
  obtain ⟨rfl, Nq4, Kq4, q4_0⟩ := hQ4
  have N4 := Fr.app N1 Nq4
  have K4 := K00.trans Kq4 (allS (Or.inl (List.mem_of_getElem? (i := 0) rfl)) all0)
  refine ret0 ?_
  exact g_retV C X4 K d18_18 (by decide) (by decide) rfl ⟨rfl, N4, K4, q4_0⟩
theorem ef_14rr (m : MethodId) (a1 : Addr) (a2 : Addr) : entryFrame m #[(.ref a1), (.ref a2)] 3 = mkF m 0 #[rv a1, rv a2, uu] [] := by first | (simp [entryFrame, mkF, argsToLocals, Value.category, iv, rv, jv, nv, uu, sd]; done) | rfl
theorem d14_0 : decode jdk_68_method_22_code 0 = .ok (.aload_n 1, 1) := by decide +kernel
theorem d14_1 : decode jdk_68_method_22_code 1 = .ok (.ifnonnull 8, 3) := by decide +kernel
theorem d14_9 : decode jdk_68_method_22_code 9 = .ok (.aload_n 1, 1) := by decide +kernel
theorem d14_10 : decode jdk_68_method_22_code 10 = .ok (.invokevirtual 32, 3) := by decide +kernel
theorem w_94 (hw : OwnW a0 Z) : Cond.before (.code ⟨"java/lang/String", "length", "()I"⟩ jdk_42_method_54_code (1 : Nat) (Option.some Jvm.ClassFile.FieldType.int)) a0 Z = true := wA hw 94 rfl
theorem w_90 (hw : OwnW a0 Z) : Cond.before (.methodLink "java/lang/AbstractStringBuilder" (32 : Nat) ⟨"java/lang/String", "length", "()I"⟩) a0 Z = true := wA hw 90 rfl
theorem pd_9 : parseMethodDescriptor "()I" = some ⟨[], some .int⟩ := by decide +kernel
theorem w_91 (hw : OwnW a0 Z) : Cond.before (.declares ⟨"java/lang/String", "length", "()I"⟩) a0 Z = true := wA hw 91 rfl
theorem w_93 (hw : OwnW a0 Z) : Cond.before (.selects "java/lang/String" ⟨"java/lang/String", "length", "()I"⟩ ⟨"java/lang/String", "length", "()I"⟩) a0 Z = true := wA hw 93 rfl
theorem w_92 (hw : OwnW a0 Z) : Cond.before (.instanceMethod ⟨"java/lang/String", "length", "()I"⟩) a0 Z = true := wA hw 92 rfl
theorem b_7 (hw : OwnW a0 Z) : CallV "java/lang/AbstractStringBuilder" 32 (⟨"java/lang/String", "length", "()I"⟩ : MethodName) "java/lang/String" jdk_42_method_54_code (1 : Nat) (Option.some Jvm.ClassFile.FieldType.int) a0 Z := ⟨(w_90 hw), (w_91 hw), (w_93 hw), (w_92 hw), (w_94 hw), (w_2 hw)⟩
theorem d14_13 : decode jdk_68_method_22_code 13 = .ok (.istore_n 2, 1) := by decide +kernel
theorem d14_14 : decode jdk_68_method_22_code 14 = .ok (.aload_n 0, 1) := by decide +kernel
theorem d14_15 : decode jdk_68_method_22_code 15 = .ok (.aload_n 0, 1) := by decide +kernel
theorem d14_16 : decode jdk_68_method_22_code 16 = .ok (.getfield 79, 3) := by decide +kernel
theorem w_100 (hw : OwnW a0 Z) : Cond.before (.fieldLink "java/lang/AbstractStringBuilder" (79 : Nat) "java/lang/AbstractStringBuilder" "count" "I") a0 Z = true := wA hw 100 rfl
theorem d14_19 : decode jdk_68_method_22_code 19 = .ok (.iload_n 2, 1) := by decide +kernel
theorem d14_20 : decode jdk_68_method_22_code 20 = .ok (.iadd, 1) := by decide +kernel
theorem d14_21 : decode jdk_68_method_22_code 21 = .ok (.invokevirtual 100, 3) := by decide +kernel
theorem w_106 (hw : OwnW a0 Z) : Cond.before (.code ⟨"java/lang/AbstractStringBuilder", "ensureCapacityInternal", "(I)V"⟩ jdk_68_method_9_code (3 : Nat) (Option.none : Option Jvm.ClassFile.FieldType)) a0 Z = true := wA hw 106 rfl
theorem w_102 (hw : OwnW a0 Z) : Cond.before (.methodLink "java/lang/AbstractStringBuilder" (100 : Nat) ⟨"java/lang/AbstractStringBuilder", "ensureCapacityInternal", "(I)V"⟩) a0 Z = true := wA hw 102 rfl
theorem w_105 (hw : OwnW a0 Z) : Cond.before (.selects "java/lang/StringBuilder" ⟨"java/lang/AbstractStringBuilder", "ensureCapacityInternal", "(I)V"⟩ ⟨"java/lang/AbstractStringBuilder", "ensureCapacityInternal", "(I)V"⟩) a0 Z = true := wA hw 105 rfl
theorem w_103 (hw : OwnW a0 Z) : Cond.before (.instanceMethod ⟨"java/lang/AbstractStringBuilder", "ensureCapacityInternal", "(I)V"⟩) a0 Z = true := wA hw 103 rfl
theorem d14_24 : decode jdk_68_method_22_code 24 = .ok (.aload_n 0, 1) := by decide +kernel
theorem d14_25 : decode jdk_68_method_22_code 25 = .ok (.aload_n 0, 1) := by decide +kernel
theorem d14_26 : decode jdk_68_method_22_code 26 = .ok (.getfield 79, 3) := by decide +kernel
theorem d14_29 : decode jdk_68_method_22_code 29 = .ok (.aload_n 1, 1) := by decide +kernel
theorem d14_30 : decode jdk_68_method_22_code 30 = .ok (.invokevirtual 208, 3) := by decide +kernel
theorem w_111 (hw : OwnW a0 Z) : Cond.before (.code ⟨"java/lang/AbstractStringBuilder", "putStringAt", "(ILjava/lang/String;)V"⟩ jdk_68_method_73_code (3 : Nat) (Option.none : Option Jvm.ClassFile.FieldType)) a0 Z = true := wA hw 111 rfl
theorem w_107 (hw : OwnW a0 Z) : Cond.before (.methodLink "java/lang/AbstractStringBuilder" (208 : Nat) ⟨"java/lang/AbstractStringBuilder", "putStringAt", "(ILjava/lang/String;)V"⟩) a0 Z = true := wA hw 107 rfl
theorem pd_10 : parseMethodDescriptor "(ILjava/lang/String;)V" = some ⟨[.int, (.object "java/lang/String")], none⟩ := by decide +kernel
theorem w_110 (hw : OwnW a0 Z) : Cond.before (.selects "java/lang/StringBuilder" ⟨"java/lang/AbstractStringBuilder", "putStringAt", "(ILjava/lang/String;)V"⟩ ⟨"java/lang/AbstractStringBuilder", "putStringAt", "(ILjava/lang/String;)V"⟩) a0 Z = true := wA hw 110 rfl
theorem w_108 (hw : OwnW a0 Z) : Cond.before (.instanceMethod ⟨"java/lang/AbstractStringBuilder", "putStringAt", "(ILjava/lang/String;)V"⟩) a0 Z = true := wA hw 108 rfl
theorem d14_33 : decode jdk_68_method_22_code 33 = .ok (.aload_n 0, 1) := by decide +kernel
theorem d14_34 : decode jdk_68_method_22_code 34 = .ok (.dup, 1) := by decide +kernel
theorem d14_35 : decode jdk_68_method_22_code 35 = .ok (.getfield 79, 3) := by decide +kernel
theorem d14_38 : decode jdk_68_method_22_code 38 = .ok (.iload_n 2, 1) := by decide +kernel
theorem d14_39 : decode jdk_68_method_22_code 39 = .ok (.iadd, 1) := by decide +kernel
theorem d14_40 : decode jdk_68_method_22_code 40 = .ok (.putfield 79, 3) := by decide +kernel
theorem d14_43 : decode jdk_68_method_22_code 43 = .ok (.aload_n 0, 1) := by decide +kernel
theorem d14_44 : decode jdk_68_method_22_code 44 = .ok (.areturn, 1) := by decide +kernel
def Q14 (Z : State) (o1 : Addr) (o5 : Addr) (o2 : Addr) (kd1 : ClassId) (c1 : Nat) (l1 : List Int32) (o6 : Addr) (kd5 : ClassId) (l5 : List Int32) (cs1 : Int32) (h0 : Heap) (n0 : Nat) (v : Option Value) (h : Heap) (L : List Loc) : Prop := ∃ (o3 : Addr) (kd3 : ClassId) (c3 : Nat), v = some (.ref o1) ∧ Fr n0 L ∧ (o3 = o2 ∨ h0.size ≤ o3) ∧ Keep h0 h [o1, o2] ∧ Fld Z h o1 "java/lang/AbstractStringBuilder" "value" "[B" (.ref o3) ∧ Fld Z h o1 "java/lang/AbstractStringBuilder" "coder" "B" (.int 0) ∧ Fld Z h o1 "java/lang/AbstractStringBuilder" "count" "I" (.int (Int32.ofNat (l1 ++ l5).length)) ∧ Arv Z h o3 kd3 .byte (Int32.ofNat c3) ((l1 ++ l5).map Value.int) (.int 0) ∧ Exa Z h o3 "[B" ∧ c3 ≤ 90 ∧ (l1 ++ l5).length ≤ c3
abbrev y14 : MethodName := (⟨"java/lang/AbstractStringBuilder", "append", "(Ljava/lang/String;)Ljava/lang/AbstractStringBuilder;"⟩ : MethodName)
theorem rm14 {o1 o5 o2 o6 : Addr} {kd1 kd5 : ClassId} {c1 : Nat} {l1 l5 : List Int32} {cs1 : Int32} (hw : OwnW a0 Z) (Z0 : n0 ≤ h0.size) (F0 : Exa Z h0 o1 "java/lang/StringBuilder") (F1 : Fld Z h0 o1 "java/lang/AbstractStringBuilder" "value" "[B" (.ref o2)) (F2 : Fld Z h0 o1 "java/lang/AbstractStringBuilder" "coder" "B" (.int 0)) (F3 : Fld Z h0 o1 "java/lang/AbstractStringBuilder" "count" "I" (.int (Int32.ofNat l1.length))) (F4 : Arv Z h0 o2 kd1 .byte (Int32.ofNat c1) (l1.map Value.int) (.int 0)) (F5 : Exa Z h0 o2 "[B") (F6 : OEs Z h0 o5) (F7 : OFv Z h0 o5 (.ref o6)) (F8 : OFc Z h0 o5) (F9 : Arv Z h0 o6 kd5 .byte (Int32.ofNat l5.length) (l5.map Value.int) (.int 0)) (F10 : OSc Z h0 cs1) (gn_o1 : n0 ≤ o1) (gn_o2 : n0 ≤ o2) (hcs : ¬ cs1 = (0 : Int32)) (hc : c1 ≤ 90) (hll : l1.length ≤ c1) (hm : l1.length + l5.length ≤ 45) (ne_o1_o2 : o1 ≠ o2) (ne_o1_o5 : o1 ≠ o5) (ne_o1_o6 : o1 ≠ o6) (ne_o2_o5 : o2 ≠ o5) (ne_o2_o6 : o2 ≠ o6) : OwnMF l Z y14 jdk_68_method_22_code 3 (some (.object "java/lang/AbstractStringBuilder")) ws ⟨4, 1, 90, 62⟩ #[(.ref o1), (.ref o5)] h0 (Q14 Z o1 o5 o2 kd1 c1 l1 o6 kd5 l5 cs1 h0 n0) := by
  refine bo (plainFor_of_name pn_12) ?_
  intro p e s m below meth c T0 G C hnm hnamed X0 e0 K
  have N0 := Fr.nil n0
  refine Goes.to (congrArg T0.setTop (ef_14rr m o1 o5)) ?_
  have K00 := Keep.refl h0 [o1, o2]
  refine g_aloadN C X0 d14_0 1 rfl rfl ?_
  refine g_ifnonnullY C X0 d14_1 9 ?_
  refine g_aloadN C X0 d14_9 10 rfl rfl ?_
  refine g_callV0 C X0 (b_7 hw) F6 d14_10 [] [] 0 (rm15_s hw Z0 F6 F7 F8 F9 F10 hcs) N0 pd_9 e0 13 (fun T1 _ X1 N1 e1 => ?_)
  refine g_istoreN C X1 d14_13 14 (w := (Int32.ofNat l5.length)) rfl (ls' := #[rv o1, rv o5, iv (Int32.ofNat l5.length)]) rfl ?_
  refine g_aloadN C X1 d14_14 15 rfl rfl ?_
  refine g_aloadN C X1 d14_15 16 rfl rfl ?_
  refine g_getF C X1 (w_100 hw) Via.refl e1 F3 d14_16 19 (fun T2 X2 e2 => ?_)
  refine g_iloadN C X2 d14_19 20 rfl ?_
  refine g_iadd C X2 d14_20 21 ?_
  refine g_callV C X2 (w_102 hw) (declares_of (w_103 hw) (w_106 hw)) (notFace_of_selects (args := #[]) (mvT C.2.1 (w_105 hw))) (w_105 hw) (w_103 hw) (w_106 hw) (w_72 hw) F0 d14_21 [(.int ((Int32.ofNat l1.length) + (Int32.ofNat l5.length)))] [] 0 (rm17 hw Z0 F0 F1 F2 F3 F4 F5 gn_o1 (i_add _ _).symm hm hc hll ne_o1_o2) pd_1 e2 24 (fun u3 T3 L3 X3 hQ3 => ?_)
  obtain ⟨o33, kd33, c33, rfl, Nq3, szo33, Kq3, q3_0, q3_1, q3_2, q3_3, q3_4, p3_mc, p3_c90⟩ := hQ3
  have N3 := Fr.app N1 Nq3
  have n4 : o1 ≠ o33 := alt_ne szo33 ne_o1_o2 F0.lt
  have n5 : o5 ≠ o33 := alt_ne szo33 (Ne.symm ne_o2_o5) F6.lt
  have n6 : o6 ≠ o33 := alt_ne szo33 (Ne.symm ne_o2_o6) F9.lt
  have f7 := F0.keep Kq3
  have f8 := F6.keep Kq3
  have f9 := F7.keep Kq3 (ninS (Ne.symm ne_o1_o5) nin0)
  have f10 := F8.keep Kq3 (ninS (Ne.symm ne_o1_o5) nin0)
  have f11 := F9.keep Kq3 (ninS (Ne.symm ne_o1_o6) nin0)
  have f12 := Sta.keepN F10 Kq3 (allS (Exa.ns F0) all0)
  have gn_o33 : n0 ≤ o33 := alt_born szo33 gn_o2 Z0
  have Z3 := Nat.le_trans Z0 Kq3.1
  have al_o33 := alt_lift szo33 K00.1
  have K3 := K00.trans Kq3 (allS (Or.inl (List.mem_of_getElem? (i := 0) rfl)) all0)
  refine ret0 ?_
  refine g_aloadN C X3 d14_24 25 rfl rfl ?_
  refine g_aloadN C X3 d14_25 26 rfl rfl ?_
  refine g_getF C X3 (w_100 hw) Via.refl rfl q3_2 d14_26 29 (fun T13 X13 e13 => ?_)
  refine g_aloadN C X13 d14_29 30 rfl rfl ?_
  refine g_callV C X13 (w_107 hw) (declares_of (w_108 hw) (w_111 hw)) (notFace_of_selects (args := #[]) (mvT C.2.1 (w_110 hw))) (w_110 hw) (w_108 hw) (w_111 hw) (w_72 hw) f7 d14_30 [(.int (Int32.ofNat l1.length)), (.ref o5)] [] 0 (rm18 hw Z3 f7 q3_0 q3_1 f8 f9 f10 f11 q3_3 f12 gn_o33 hcs rfl p3_mc p3_c90 (Ne.symm n6) (Ne.symm n5) n4) pd_10 e13 33 (fun u14 T14 L14 X14 hQ14 => ?_)
  obtain ⟨rfl, Nq14, Kq14, q14_0⟩ := hQ14
  have N14 := Fr.app N3 Nq14
  have f15 := f7.keep Kq14
  have f21 := q3_0.keep Kq14 (ninS n4 nin0)
  have f22 := q3_1.keep Kq14 (ninS n4 nin0)
  have f23 := q3_2.keep Kq14 (ninS n4 nin0)
  have f24 := q3_4.keep Kq14
  have K14 := K3.trans Kq14 (allS (alt_in al_o33 (List.mem_of_getElem? (i := 1) rfl)) all0)
  refine ret0 ?_
  refine g_aloadN C X14 d14_33 34 rfl rfl ?_
  refine g_dup C X14 d14_34 35 rfl ?_
  refine g_getF C X14 (w_100 hw) Via.refl rfl f23 d14_35 38 (fun T25 X25 e25 => ?_)
  refine g_iloadN C X25 d14_38 39 rfl ?_
  refine g_iadd C X25 d14_39 40 ?_
  refine g_putF C X25 (w_100 hw) Via.refl e25 f23 f15 (Or.inl (w_101 hw)) (w_63 hw) (ty := .int) (by decide) rfl rfl d14_40 43 (fun T26 h26 X26 e26 W26 => ?_)
  have f33 := f21.other W26 (Or.inr (slot_ne (Or.inl (w_77 hw)) (Or.inl (w_101 hw)) (by decide) (t := (.array .byte)) (t' := .int) (by decide) (by decide)))
  have f34 := f22.other W26 (Or.inr (slot_ne (Or.inl (w_79 hw)) (Or.inl (w_101 hw)) (by decide) (t := .byte) (t' := .int) (by decide) (by decide)))
  have f35 := f23.same W26
  have f36 := f24.wr W26
  have f37 := q14_0.other W26 (Ne.symm n4)
  have N26 := Fr.snoc X26 N14 gn_o1
  have K26 := K14.wr W26 (Or.inl (List.mem_of_getElem? (i := 0) rfl))
  have f38 : Fld Z h26 o1 "java/lang/AbstractStringBuilder" "count" "I" (.int (Int32.ofNat (l1 ++ l5).length)) := by rw [app_len]; exact f35
  refine g_aloadN C X26 d14_43 44 rfl rfl ?_
  exact g_retA C X26 K rfl rfl rfl d14_44 (by decide) (by decide) e26 ⟨o33, kd33, c33, rfl, N26, al_o33, K26, f33, f34, f38, f37, f36, p3_c90, (by rw [List.length_append]; exact p3_mc)⟩
theorem ef_13rr (m : MethodId) (a1 : Addr) (a2 : Addr) : entryFrame m #[(.ref a1), (.ref a2)] 2 = mkF m 0 #[rv a1, rv a2] [] := by first | (simp [entryFrame, mkF, argsToLocals, Value.category, iv, rv, jv, nv, uu, sd]; done) | rfl
theorem d13_0 : decode jdk_67_method_7_code 0 = .ok (.aload_n 0, 1) := by decide +kernel
theorem d13_1 : decode jdk_67_method_7_code 1 = .ok (.aload_n 1, 1) := by decide +kernel
theorem d13_2 : decode jdk_67_method_7_code 2 = .ok (.invokespecial 29, 3) := by decide +kernel
theorem w_89 (hw : OwnW a0 Z) : Cond.before (.code ⟨"java/lang/AbstractStringBuilder", "append", "(Ljava/lang/String;)Ljava/lang/AbstractStringBuilder;"⟩ jdk_68_method_22_code (3 : Nat) (Option.some (Jvm.ClassFile.FieldType.object "java/lang/AbstractStringBuilder"))) a0 Z = true := wA hw 89 rfl
theorem w_85 (hw : OwnW a0 Z) : Cond.before (.methodLink "java/lang/StringBuilder" (29 : Nat) ⟨"java/lang/AbstractStringBuilder", "append", "(Ljava/lang/String;)Ljava/lang/AbstractStringBuilder;"⟩) a0 Z = true := wA hw 85 rfl
theorem pd_11 : parseMethodDescriptor "(Ljava/lang/String;)Ljava/lang/AbstractStringBuilder;" = some ⟨[(.object "java/lang/String")], some (.object "java/lang/AbstractStringBuilder")⟩ := by decide +kernel
theorem w_88 (hw : OwnW a0 Z) : Cond.before (.declares ⟨"java/lang/AbstractStringBuilder", "append", "(Ljava/lang/String;)Ljava/lang/AbstractStringBuilder;"⟩) a0 Z = true := wA hw 88 rfl
theorem w_86 (hw : OwnW a0 Z) : Cond.before (.instanceMethod ⟨"java/lang/AbstractStringBuilder", "append", "(Ljava/lang/String;)Ljava/lang/AbstractStringBuilder;"⟩) a0 Z = true := wA hw 86 rfl
theorem w_87 (hw : OwnW a0 Z) : Cond.before (.superclass "java/lang/StringBuilder" "java/lang/AbstractStringBuilder") a0 Z = true := wA hw 87 rfl
theorem d13_5 : decode jdk_67_method_7_code 5 = .ok (.pop, 1) := by decide +kernel
theorem d13_6 : decode jdk_67_method_7_code 6 = .ok (.aload_n 0, 1) := by decide +kernel
theorem d13_7 : decode jdk_67_method_7_code 7 = .ok (.areturn, 1) := by decide +kernel
def Q13 (Z : State) (o1 : Addr) (o5 : Addr) (o2 : Addr) (kd1 : ClassId) (c1 : Nat) (l1 : List Int32) (o6 : Addr) (kd5 : ClassId) (l5 : List Int32) (cs1 : Int32) (h0 : Heap) (n0 : Nat) (v : Option Value) (h : Heap) (L : List Loc) : Prop := ∃ (o3 : Addr) (kd3 : ClassId) (c3 : Nat), v = some (.ref o1) ∧ Fr n0 L ∧ (o3 = o2 ∨ h0.size ≤ o3) ∧ Keep h0 h [o1, o2] ∧ Fld Z h o1 "java/lang/AbstractStringBuilder" "value" "[B" (.ref o3) ∧ Fld Z h o1 "java/lang/AbstractStringBuilder" "coder" "B" (.int 0) ∧ Fld Z h o1 "java/lang/AbstractStringBuilder" "count" "I" (.int (Int32.ofNat (l1 ++ l5).length)) ∧ Arv Z h o3 kd3 .byte (Int32.ofNat c3) ((l1 ++ l5).map Value.int) (.int 0) ∧ Exa Z h o3 "[B" ∧ c3 ≤ 90 ∧ (l1 ++ l5).length ≤ c3
abbrev y13 : MethodName := (⟨"java/lang/StringBuilder", "append", "(Ljava/lang/String;)Ljava/lang/StringBuilder;"⟩ : MethodName)
theorem rm13 {o1 o5 o2 o6 : Addr} {kd1 kd5 : ClassId} {c1 : Nat} {l1 l5 : List Int32} {cs1 : Int32} (hw : OwnW a0 Z) (Z0 : n0 ≤ h0.size) (F0 : Exa Z h0 o1 "java/lang/StringBuilder") (F1 : Fld Z h0 o1 "java/lang/AbstractStringBuilder" "value" "[B" (.ref o2)) (F2 : Fld Z h0 o1 "java/lang/AbstractStringBuilder" "coder" "B" (.int 0)) (F3 : Fld Z h0 o1 "java/lang/AbstractStringBuilder" "count" "I" (.int (Int32.ofNat l1.length))) (F4 : Arv Z h0 o2 kd1 .byte (Int32.ofNat c1) (l1.map Value.int) (.int 0)) (F5 : Exa Z h0 o2 "[B") (F6 : OEs Z h0 o5) (F7 : OFv Z h0 o5 (.ref o6)) (F8 : OFc Z h0 o5) (F9 : Arv Z h0 o6 kd5 .byte (Int32.ofNat l5.length) (l5.map Value.int) (.int 0)) (F10 : OSc Z h0 cs1) (gn_o1 : n0 ≤ o1) (gn_o2 : n0 ≤ o2) (hcs : ¬ cs1 = (0 : Int32)) (hc : c1 ≤ 90) (hll : l1.length ≤ c1) (hm : l1.length + l5.length ≤ 45) (ne_o1_o2 : o1 ≠ o2) (ne_o1_o5 : o1 ≠ o5) (ne_o1_o6 : o1 ≠ o6) (ne_o2_o5 : o2 ≠ o5) (ne_o2_o6 : o2 ≠ o6) : OwnMF l Z y13 jdk_67_method_7_code 2 (some (.object "java/lang/StringBuilder")) ws ⟨5, 1, 90, 76⟩ #[(.ref o1), (.ref o5)] h0 (Q13 Z o1 o5 o2 kd1 c1 l1 o6 kd5 l5 cs1 h0 n0) := by
  refine bo (plainFor_of_name pn_11) ?_
  intro p e s m below meth c T0 G C hnm hnamed X0 e0 K
  have N0 := Fr.nil n0
  refine Goes.to (congrArg T0.setTop (ef_13rr m o1 o5)) ?_
  have K00 := Keep.refl h0 [o1, o2]
  refine g_aloadN C X0 d13_0 1 rfl rfl ?_
  refine g_aloadN C X0 d13_1 2 rfl rfl ?_
  refine g_callU C X0 (w_85 hw) (w_88 hw) (w_86 hw) (w_87 hw) (w_105 hw) rfl (w_89 hw) (w_72 hw) (by decide) F0 d13_2 [(.ref o5)] [] 0 (rm14 hw Z0 F0 F1 F2 F3 F4 F5 F6 F7 F8 F9 F10 gn_o1 gn_o2 hcs hc hll hm ne_o1_o2 ne_o1_o5 ne_o1_o6 ne_o2_o5 ne_o2_o6) pd_11 e0 5 (fun u1 T1 L1 X1 hQ1 => ?_)
  obtain ⟨o31, kd31, c31, rfl, Nq1, szo31, Kq1, q1_0, q1_1, q1_2, q1_3, q1_4, p1_c90, p1_ll⟩ := hQ1
  have N1 := Fr.app N0 Nq1
  have al_o31 := alt_lift szo31 K00.1
  have K1 := K00.trans Kq1 (allS (Or.inl (List.mem_of_getElem? (i := 0) rfl)) (allS (Or.inl (List.mem_of_getElem? (i := 1) rfl)) all0))
  refine ret1 ?_
  refine g_pop C X1 d13_5 6 rfl ?_
  refine g_aloadN C X1 d13_6 7 rfl rfl ?_
  exact g_retA C X1 K rfl rfl rfl d13_7 (by decide) (by decide) rfl ⟨o31, kd31, c31, rfl, N1, al_o31, K1, q1_0, q1_1, q1_2, q1_3, q1_4, p1_c90, p1_ll⟩
theorem ef_23i (m : MethodId) (a1 : Int32) : entryFrame m #[(.int a1)] 4 = mkF m 0 #[iv a1, uu, uu, uu] [] := by first | (simp [entryFrame, mkF, argsToLocals, Value.category, iv, rv, jv, nv, uu, sd]; done) | rfl
theorem d23_0 : decode jdk_33_method_13_code 0 = .ok (.iconst 1, 1) := by decide +kernel
theorem d23_1 : decode jdk_33_method_13_code 1 = .ok (.istore_n 1, 1) := by decide +kernel
theorem d23_2 : decode jdk_33_method_13_code 2 = .ok (.iload_n 0, 1) := by decide +kernel
theorem d23_3 : decode jdk_33_method_13_code 3 = .ok (.ifCond .lt 8, 3) := by decide +kernel
theorem d23_11 : decode jdk_33_method_13_code 11 = .ok (.bipush (-10), 2) := by decide +kernel
theorem d23_13 : decode jdk_33_method_13_code 13 = .ok (.istore_n 2, 1) := by decide +kernel
theorem d23_14 : decode jdk_33_method_13_code 14 = .ok (.iconst 1, 1) := by decide +kernel
theorem d23_15 : decode jdk_33_method_13_code 15 = .ok (.istore_n 3, 1) := by decide +kernel
theorem d23_16 : decode jdk_33_method_13_code 16 = .ok (.iload_n 3, 1) := by decide +kernel
theorem d23_17 : decode jdk_33_method_13_code 17 = .ok (.bipush 10, 2) := by decide +kernel
theorem d23_19 : decode jdk_33_method_13_code 19 = .ok (.if_icmp .ge 23, 3) := by decide +kernel
theorem d23_22 : decode jdk_33_method_13_code 22 = .ok (.iload_n 0, 1) := by decide +kernel
theorem d23_23 : decode jdk_33_method_13_code 23 = .ok (.iload_n 2, 1) := by decide +kernel
theorem d23_24 : decode jdk_33_method_13_code 24 = .ok (.if_icmp .le 7, 3) := by decide +kernel
theorem d23_31 : decode jdk_33_method_13_code 31 = .ok (.bipush 10, 2) := by decide +kernel
theorem d23_33 : decode jdk_33_method_13_code 33 = .ok (.iload_n 2, 1) := by decide +kernel
theorem d23_34 : decode jdk_33_method_13_code 34 = .ok (.imul, 1) := by decide +kernel
theorem d23_35 : decode jdk_33_method_13_code 35 = .ok (.istore_n 2, 1) := by decide +kernel
theorem d23_36 : decode jdk_33_method_13_code 36 = .ok (.iinc 3 1, 3) := by decide +kernel
theorem d23_39 : decode jdk_33_method_13_code 39 = .ok (.goto (-23), 3) := by decide +kernel
theorem d23_42 : decode jdk_33_method_13_code 42 = .ok (.bipush 10, 2) := by decide +kernel
theorem d23_44 : decode jdk_33_method_13_code 44 = .ok (.iload_n 1, 1) := by decide +kernel
theorem d23_45 : decode jdk_33_method_13_code 45 = .ok (.iadd, 1) := by decide +kernel
theorem d23_46 : decode jdk_33_method_13_code 46 = .ok (.ireturn, 1) := by decide +kernel
theorem d23_27 : decode jdk_33_method_13_code 27 = .ok (.iload_n 3, 1) := by decide +kernel
theorem d23_28 : decode jdk_33_method_13_code 28 = .ok (.iload_n 1, 1) := by decide +kernel
theorem d23_29 : decode jdk_33_method_13_code 29 = .ok (.iadd, 1) := by decide +kernel
theorem d23_30 : decode jdk_33_method_13_code 30 = .ok (.ireturn, 1) := by decide +kernel
theorem d23_6 : decode jdk_33_method_13_code 6 = .ok (.iconst 0, 1) := by decide +kernel
theorem d23_7 : decode jdk_33_method_13_code 7 = .ok (.istore_n 1, 1) := by decide +kernel
theorem d23_8 : decode jdk_33_method_13_code 8 = .ok (.iload_n 0, 1) := by decide +kernel
theorem d23_9 : decode jdk_33_method_13_code 9 = .ok (.ineg, 1) := by decide +kernel
theorem d23_10 : decode jdk_33_method_13_code 10 = .ok (.istore_n 0, 1) := by decide +kernel
def fSize (x0 : Int32) : Int32 := if x0 < (0 : Int32) then if (-10 : Int32) < x0 then ((1 : Int32) + (1 : Int32)) else if ((10 : Int32) * (-10 : Int32)) < x0 then ((2 : Int32) + (1 : Int32)) else if ((10 : Int32) * ((10 : Int32) * (-10 : Int32))) < x0 then ((3 : Int32) + (1 : Int32)) else if ((10 : Int32) * ((10 : Int32) * ((10 : Int32) * (-10 : Int32)))) < x0 then ((4 : Int32) + (1 : Int32)) else if ((10 : Int32) * ((10 : Int32) * ((10 : Int32) * ((10 : Int32) * (-10 : Int32))))) < x0 then ((5 : Int32) + (1 : Int32)) else if ((10 : Int32) * ((10 : Int32) * ((10 : Int32) * ((10 : Int32) * ((10 : Int32) * (-10 : Int32)))))) < x0 then ((6 : Int32) + (1 : Int32)) else if ((10 : Int32) * ((10 : Int32) * ((10 : Int32) * ((10 : Int32) * ((10 : Int32) * ((10 : Int32) * (-10 : Int32))))))) < x0 then ((7 : Int32) + (1 : Int32)) else if ((10 : Int32) * ((10 : Int32) * ((10 : Int32) * ((10 : Int32) * ((10 : Int32) * ((10 : Int32) * ((10 : Int32) * (-10 : Int32)))))))) < x0 then ((8 : Int32) + (1 : Int32)) else if ((10 : Int32) * ((10 : Int32) * ((10 : Int32) * ((10 : Int32) * ((10 : Int32) * ((10 : Int32) * ((10 : Int32) * ((10 : Int32) * (-10 : Int32))))))))) < x0 then ((9 : Int32) + (1 : Int32)) else ((10 : Int32) + (1 : Int32)) else if (-10 : Int32) < (-x0) then ((1 : Int32) + (0 : Int32)) else if ((10 : Int32) * (-10 : Int32)) < (-x0) then ((2 : Int32) + (0 : Int32)) else if ((10 : Int32) * ((10 : Int32) * (-10 : Int32))) < (-x0) then ((3 : Int32) + (0 : Int32)) else if ((10 : Int32) * ((10 : Int32) * ((10 : Int32) * (-10 : Int32)))) < (-x0) then ((4 : Int32) + (0 : Int32)) else if ((10 : Int32) * ((10 : Int32) * ((10 : Int32) * ((10 : Int32) * (-10 : Int32))))) < (-x0) then ((5 : Int32) + (0 : Int32)) else if ((10 : Int32) * ((10 : Int32) * ((10 : Int32) * ((10 : Int32) * ((10 : Int32) * (-10 : Int32)))))) < (-x0) then ((6 : Int32) + (0 : Int32)) else if ((10 : Int32) * ((10 : Int32) * ((10 : Int32) * ((10 : Int32) * ((10 : Int32) * ((10 : Int32) * (-10 : Int32))))))) < (-x0) then ((7 : Int32) + (0 : Int32)) else if ((10 : Int32) * ((10 : Int32) * ((10 : Int32) * ((10 : Int32) * ((10 : Int32) * ((10 : Int32) * ((10 : Int32) * (-10 : Int32)))))))) < (-x0) then ((8 : Int32) + (0 : Int32)) else if ((10 : Int32) * ((10 : Int32) * ((10 : Int32) * ((10 : Int32) * ((10 : Int32) * ((10 : Int32) * ((10 : Int32) * ((10 : Int32) * (-10 : Int32))))))))) < (-x0) then ((9 : Int32) + (0 : Int32)) else ((10 : Int32) + (0 : Int32))
abbrev y23 : MethodName := (⟨"java/lang/Integer", "stringSize", "(I)I"⟩ : MethodName)
theorem pn_23 : plainName "java/lang/Integer" = true := by first | (simp [plainName, overriddenIn]; done) | decide +kernel
theorem rm23 {x0 : Int32} (hw : OwnW a0 Z) (Z0 : n0 ≤ h0.size) : OwnMF l Z y23 jdk_33_method_13_code 4 (some .int) ws ⟨0, 0, 0, 0⟩ #[(.int x0)] h0 (OwnQ (some (.int (fSize x0))) h0 n0) := by
  refine bo (plainFor_of_name pn_23) ?_
  intro p e s m below meth c T0 G C hnm hnamed X0 e0 K
  have N0 := Fr.nil n0
  refine Goes.to (congrArg T0.setTop (ef_23i m x0)) ?_
  refine g_iconst C X0 d23_0 1 (v := 1) rfl ?_
  refine g_istoreN C X0 d23_1 2 (w := 1) rfl (ls' := #[iv x0, iv 1, uu, uu]) rfl ?_
  refine g_iloadN C X0 d23_2 3 rfl ?_
  refine g_if_lt C X0 d23_3 11 6 (fun hc3 => ?_) (fun hc3 => ?_)
  · refine g_bipush C X0 d23_11 13 (v := -10) rfl ?_
    refine g_istoreN C X0 d23_13 14 (w := (-10 : Int32)) rfl (ls' := #[iv x0, iv 1, iv (-10 : Int32), uu]) rfl ?_
    refine g_iconst C X0 d23_14 15 (v := 1) rfl ?_
    refine g_istoreN C X0 d23_15 16 (w := 1) rfl (ls' := #[iv x0, iv 1, iv (-10 : Int32), iv 1]) rfl ?_
    refine g_iloadN C X0 d23_16 17 rfl ?_
    refine g_bipush C X0 d23_17 19 (v := 10) rfl ?_
    refine g_icmp_ge C X0 d23_19 42 22 (fun hc19 => absurd hc19 (by decide)) (fun hc19 => ?_)
    refine g_iloadN C X0 d23_22 23 rfl ?_
    refine g_iloadN C X0 d23_23 24 rfl ?_
    refine g_icmp_le C X0 d23_24 31 27 (fun hc24 => ?_) (fun hc24 => ?_)
    · refine g_bipush C X0 d23_31 33 (v := 10) rfl ?_
      refine g_iloadN C X0 d23_33 34 rfl ?_
      refine g_imul C X0 d23_34 35 ?_
      refine g_istoreN C X0 d23_35 36 (w := ((10 : Int32) * (-10 : Int32))) rfl (ls' := #[iv x0, iv 1, iv ((10 : Int32) * (-10 : Int32)), iv 1]) rfl ?_
      refine g_iinc C X0 d23_36 39 rfl (w := 2) rfl (ls' := #[iv x0, iv 1, iv ((10 : Int32) * (-10 : Int32)), iv 2]) rfl ?_
      refine g_goto C X0 d23_39 16 ?_
      refine g_iloadN C X0 d23_16 17 rfl ?_
      refine g_bipush C X0 d23_17 19 (v := 10) rfl ?_
      refine g_icmp_ge C X0 d23_19 42 22 (fun hc19_1 => absurd hc19_1 (by decide)) (fun hc19_1 => ?_)
      refine g_iloadN C X0 d23_22 23 rfl ?_
      refine g_iloadN C X0 d23_23 24 rfl ?_
      refine g_icmp_le C X0 d23_24 31 27 (fun hc24_1 => ?_) (fun hc24_1 => ?_)
      · refine g_bipush C X0 d23_31 33 (v := 10) rfl ?_
        refine g_iloadN C X0 d23_33 34 rfl ?_
        refine g_imul C X0 d23_34 35 ?_
        refine g_istoreN C X0 d23_35 36 (w := ((10 : Int32) * ((10 : Int32) * (-10 : Int32)))) rfl (ls' := #[iv x0, iv 1, iv ((10 : Int32) * ((10 : Int32) * (-10 : Int32))), iv 2]) rfl ?_
        refine g_iinc C X0 d23_36 39 rfl (w := 3) rfl (ls' := #[iv x0, iv 1, iv ((10 : Int32) * ((10 : Int32) * (-10 : Int32))), iv 3]) rfl ?_
        refine g_goto C X0 d23_39 16 ?_
        refine g_iloadN C X0 d23_16 17 rfl ?_
        refine g_bipush C X0 d23_17 19 (v := 10) rfl ?_
        refine g_icmp_ge C X0 d23_19 42 22 (fun hc19_2 => absurd hc19_2 (by decide)) (fun hc19_2 => ?_)
        refine g_iloadN C X0 d23_22 23 rfl ?_
        refine g_iloadN C X0 d23_23 24 rfl ?_
        refine g_icmp_le C X0 d23_24 31 27 (fun hc24_2 => ?_) (fun hc24_2 => ?_)
        · refine g_bipush C X0 d23_31 33 (v := 10) rfl ?_
          refine g_iloadN C X0 d23_33 34 rfl ?_
          refine g_imul C X0 d23_34 35 ?_
          refine g_istoreN C X0 d23_35 36 (w := ((10 : Int32) * ((10 : Int32) * ((10 : Int32) * (-10 : Int32))))) rfl (ls' := #[iv x0, iv 1, iv ((10 : Int32) * ((10 : Int32) * ((10 : Int32) * (-10 : Int32)))), iv 3]) rfl ?_
          refine g_iinc C X0 d23_36 39 rfl (w := 4) rfl (ls' := #[iv x0, iv 1, iv ((10 : Int32) * ((10 : Int32) * ((10 : Int32) * (-10 : Int32)))), iv 4]) rfl ?_
          refine g_goto C X0 d23_39 16 ?_
          refine g_iloadN C X0 d23_16 17 rfl ?_
          refine g_bipush C X0 d23_17 19 (v := 10) rfl ?_
          refine g_icmp_ge C X0 d23_19 42 22 (fun hc19_3 => absurd hc19_3 (by decide)) (fun hc19_3 => ?_)
          refine g_iloadN C X0 d23_22 23 rfl ?_
          refine g_iloadN C X0 d23_23 24 rfl ?_
          refine g_icmp_le C X0 d23_24 31 27 (fun hc24_3 => ?_) (fun hc24_3 => ?_)
          · refine g_bipush C X0 d23_31 33 (v := 10) rfl ?_
            refine g_iloadN C X0 d23_33 34 rfl ?_
            refine g_imul C X0 d23_34 35 ?_
            refine g_istoreN C X0 d23_35 36 (w := ((10 : Int32) * ((10 : Int32) * ((10 : Int32) * ((10 : Int32) * (-10 : Int32)))))) rfl (ls' := #[iv x0, iv 1, iv ((10 : Int32) * ((10 : Int32) * ((10 : Int32) * ((10 : Int32) * (-10 : Int32))))), iv 4]) rfl ?_
            refine g_iinc C X0 d23_36 39 rfl (w := 5) rfl (ls' := #[iv x0, iv 1, iv ((10 : Int32) * ((10 : Int32) * ((10 : Int32) * ((10 : Int32) * (-10 : Int32))))), iv 5]) rfl ?_
            refine g_goto C X0 d23_39 16 ?_
            refine g_iloadN C X0 d23_16 17 rfl ?_
            refine g_bipush C X0 d23_17 19 (v := 10) rfl ?_
            refine g_icmp_ge C X0 d23_19 42 22 (fun hc19_4 => absurd hc19_4 (by decide)) (fun hc19_4 => ?_)
            refine g_iloadN C X0 d23_22 23 rfl ?_
            refine g_iloadN C X0 d23_23 24 rfl ?_
            refine g_icmp_le C X0 d23_24 31 27 (fun hc24_4 => ?_) (fun hc24_4 => ?_)
            · refine g_bipush C X0 d23_31 33 (v := 10) rfl ?_
              refine g_iloadN C X0 d23_33 34 rfl ?_
              refine g_imul C X0 d23_34 35 ?_
              refine g_istoreN C X0 d23_35 36 (w := ((10 : Int32) * ((10 : Int32) * ((10 : Int32) * ((10 : Int32) * ((10 : Int32) * (-10 : Int32))))))) rfl (ls' := #[iv x0, iv 1, iv ((10 : Int32) * ((10 : Int32) * ((10 : Int32) * ((10 : Int32) * ((10 : Int32) * (-10 : Int32)))))), iv 5]) rfl ?_
              refine g_iinc C X0 d23_36 39 rfl (w := 6) rfl (ls' := #[iv x0, iv 1, iv ((10 : Int32) * ((10 : Int32) * ((10 : Int32) * ((10 : Int32) * ((10 : Int32) * (-10 : Int32)))))), iv 6]) rfl ?_
              refine g_goto C X0 d23_39 16 ?_
              refine g_iloadN C X0 d23_16 17 rfl ?_
              refine g_bipush C X0 d23_17 19 (v := 10) rfl ?_
              refine g_icmp_ge C X0 d23_19 42 22 (fun hc19_5 => absurd hc19_5 (by decide)) (fun hc19_5 => ?_)
              refine g_iloadN C X0 d23_22 23 rfl ?_
              refine g_iloadN C X0 d23_23 24 rfl ?_
              refine g_icmp_le C X0 d23_24 31 27 (fun hc24_5 => ?_) (fun hc24_5 => ?_)
              · refine g_bipush C X0 d23_31 33 (v := 10) rfl ?_
                refine g_iloadN C X0 d23_33 34 rfl ?_
                refine g_imul C X0 d23_34 35 ?_
                refine g_istoreN C X0 d23_35 36 (w := ((10 : Int32) * ((10 : Int32) * ((10 : Int32) * ((10 : Int32) * ((10 : Int32) * ((10 : Int32) * (-10 : Int32)))))))) rfl (ls' := #[iv x0, iv 1, iv ((10 : Int32) * ((10 : Int32) * ((10 : Int32) * ((10 : Int32) * ((10 : Int32) * ((10 : Int32) * (-10 : Int32))))))), iv 6]) rfl ?_
                refine g_iinc C X0 d23_36 39 rfl (w := 7) rfl (ls' := #[iv x0, iv 1, iv ((10 : Int32) * ((10 : Int32) * ((10 : Int32) * ((10 : Int32) * ((10 : Int32) * ((10 : Int32) * (-10 : Int32))))))), iv 7]) rfl ?_
                refine g_goto C X0 d23_39 16 ?_
                refine g_iloadN C X0 d23_16 17 rfl ?_
                refine g_bipush C X0 d23_17 19 (v := 10) rfl ?_
                refine g_icmp_ge C X0 d23_19 42 22 (fun hc19_6 => absurd hc19_6 (by decide)) (fun hc19_6 => ?_)
                refine g_iloadN C X0 d23_22 23 rfl ?_
                refine g_iloadN C X0 d23_23 24 rfl ?_
                refine g_icmp_le C X0 d23_24 31 27 (fun hc24_6 => ?_) (fun hc24_6 => ?_)
                · refine g_bipush C X0 d23_31 33 (v := 10) rfl ?_
                  refine g_iloadN C X0 d23_33 34 rfl ?_
                  refine g_imul C X0 d23_34 35 ?_
                  refine g_istoreN C X0 d23_35 36 (w := ((10 : Int32) * ((10 : Int32) * ((10 : Int32) * ((10 : Int32) * ((10 : Int32) * ((10 : Int32) * ((10 : Int32) * (-10 : Int32))))))))) rfl (ls' := #[iv x0, iv 1, iv ((10 : Int32) * ((10 : Int32) * ((10 : Int32) * ((10 : Int32) * ((10 : Int32) * ((10 : Int32) * ((10 : Int32) * (-10 : Int32)))))))), iv 7]) rfl ?_
                  refine g_iinc C X0 d23_36 39 rfl (w := 8) rfl (ls' := #[iv x0, iv 1, iv ((10 : Int32) * ((10 : Int32) * ((10 : Int32) * ((10 : Int32) * ((10 : Int32) * ((10 : Int32) * ((10 : Int32) * (-10 : Int32)))))))), iv 8]) rfl ?_
                  refine g_goto C X0 d23_39 16 ?_
                  refine g_iloadN C X0 d23_16 17 rfl ?_
                  refine g_bipush C X0 d23_17 19 (v := 10) rfl ?_
                  refine g_icmp_ge C X0 d23_19 42 22 (fun hc19_7 => absurd hc19_7 (by decide)) (fun hc19_7 => ?_)
                  refine g_iloadN C X0 d23_22 23 rfl ?_
                  refine g_iloadN C X0 d23_23 24 rfl ?_
                  refine g_icmp_le C X0 d23_24 31 27 (fun hc24_7 => ?_) (fun hc24_7 => ?_)
                  · refine g_bipush C X0 d23_31 33 (v := 10) rfl ?_
                    refine g_iloadN C X0 d23_33 34 rfl ?_
                    refine g_imul C X0 d23_34 35 ?_
                    refine g_istoreN C X0 d23_35 36 (w := ((10 : Int32) * ((10 : Int32) * ((10 : Int32) * ((10 : Int32) * ((10 : Int32) * ((10 : Int32) * ((10 : Int32) * ((10 : Int32) * (-10 : Int32)))))))))) rfl (ls' := #[iv x0, iv 1, iv ((10 : Int32) * ((10 : Int32) * ((10 : Int32) * ((10 : Int32) * ((10 : Int32) * ((10 : Int32) * ((10 : Int32) * ((10 : Int32) * (-10 : Int32))))))))), iv 8]) rfl ?_
                    refine g_iinc C X0 d23_36 39 rfl (w := 9) rfl (ls' := #[iv x0, iv 1, iv ((10 : Int32) * ((10 : Int32) * ((10 : Int32) * ((10 : Int32) * ((10 : Int32) * ((10 : Int32) * ((10 : Int32) * ((10 : Int32) * (-10 : Int32))))))))), iv 9]) rfl ?_
                    refine g_goto C X0 d23_39 16 ?_
                    refine g_iloadN C X0 d23_16 17 rfl ?_
                    refine g_bipush C X0 d23_17 19 (v := 10) rfl ?_
                    refine g_icmp_ge C X0 d23_19 42 22 (fun hc19_8 => absurd hc19_8 (by decide)) (fun hc19_8 => ?_)
                    refine g_iloadN C X0 d23_22 23 rfl ?_
                    refine g_iloadN C X0 d23_23 24 rfl ?_
                    refine g_icmp_le C X0 d23_24 31 27 (fun hc24_8 => ?_) (fun hc24_8 => ?_)
                    · refine g_bipush C X0 d23_31 33 (v := 10) rfl ?_
                      refine g_iloadN C X0 d23_33 34 rfl ?_
                      refine g_imul C X0 d23_34 35 ?_
                      refine g_istoreN C X0 d23_35 36 (w := ((10 : Int32) * ((10 : Int32) * ((10 : Int32) * ((10 : Int32) * ((10 : Int32) * ((10 : Int32) * ((10 : Int32) * ((10 : Int32) * ((10 : Int32) * (-10 : Int32))))))))))) rfl (ls' := #[iv x0, iv 1, iv ((10 : Int32) * ((10 : Int32) * ((10 : Int32) * ((10 : Int32) * ((10 : Int32) * ((10 : Int32) * ((10 : Int32) * ((10 : Int32) * ((10 : Int32) * (-10 : Int32)))))))))), iv 9]) rfl ?_
                      refine g_iinc C X0 d23_36 39 rfl (w := 10) rfl (ls' := #[iv x0, iv 1, iv ((10 : Int32) * ((10 : Int32) * ((10 : Int32) * ((10 : Int32) * ((10 : Int32) * ((10 : Int32) * ((10 : Int32) * ((10 : Int32) * ((10 : Int32) * (-10 : Int32)))))))))), iv 10]) rfl ?_
                      refine g_goto C X0 d23_39 16 ?_
                      refine g_iloadN C X0 d23_16 17 rfl ?_
                      refine g_bipush C X0 d23_17 19 (v := 10) rfl ?_
                      refine g_icmp_ge C X0 d23_19 42 22 (fun hc19_9 => ?_) (fun hc19_9 => absurd hc19_9 (by decide))
                      refine g_bipush C X0 d23_42 44 (v := 10) rfl ?_
                      refine g_iloadN C X0 d23_44 45 rfl ?_
                      refine g_iadd C X0 d23_45 46 ?_
                      exact g_retI C X0 K d23_46 (by decide) (by decide) e0 ⟨by (unfold fSize; rw [if_pos hc3, if_neg hc24, if_neg hc24_1, if_neg hc24_2, if_neg hc24_3, if_neg hc24_4, if_neg hc24_5, if_neg hc24_6, if_neg hc24_7, if_neg hc24_8]) <;> rfl, N0, rfl⟩
                    · refine g_iloadN C X0 d23_27 28 rfl ?_
                      refine g_iloadN C X0 d23_28 29 rfl ?_
                      refine g_iadd C X0 d23_29 30 ?_
                      exact g_retI C X0 K d23_30 (by decide) (by decide) e0 ⟨by (unfold fSize; rw [if_pos hc3, if_neg hc24, if_neg hc24_1, if_neg hc24_2, if_neg hc24_3, if_neg hc24_4, if_neg hc24_5, if_neg hc24_6, if_neg hc24_7, if_pos hc24_8]) <;> rfl, N0, rfl⟩
                  · refine g_iloadN C X0 d23_27 28 rfl ?_
                    refine g_iloadN C X0 d23_28 29 rfl ?_
                    refine g_iadd C X0 d23_29 30 ?_
                    exact g_retI C X0 K d23_30 (by decide) (by decide) e0 ⟨by (unfold fSize; rw [if_pos hc3, if_neg hc24, if_neg hc24_1, if_neg hc24_2, if_neg hc24_3, if_neg hc24_4, if_neg hc24_5, if_neg hc24_6, if_pos hc24_7]) <;> rfl, N0, rfl⟩
                · refine g_iloadN C X0 d23_27 28 rfl ?_
                  refine g_iloadN C X0 d23_28 29 rfl ?_
                  refine g_iadd C X0 d23_29 30 ?_
                  exact g_retI C X0 K d23_30 (by decide) (by decide) e0 ⟨by (unfold fSize; rw [if_pos hc3, if_neg hc24, if_neg hc24_1, if_neg hc24_2, if_neg hc24_3, if_neg hc24_4, if_neg hc24_5, if_pos hc24_6]) <;> rfl, N0, rfl⟩
              · refine g_iloadN C X0 d23_27 28 rfl ?_
                refine g_iloadN C X0 d23_28 29 rfl ?_
                refine g_iadd C X0 d23_29 30 ?_
                exact g_retI C X0 K d23_30 (by decide) (by decide) e0 ⟨by (unfold fSize; rw [if_pos hc3, if_neg hc24, if_neg hc24_1, if_neg hc24_2, if_neg hc24_3, if_neg hc24_4, if_pos hc24_5]) <;> rfl, N0, rfl⟩
            · refine g_iloadN C X0 d23_27 28 rfl ?_
              refine g_iloadN C X0 d23_28 29 rfl ?_
              refine g_iadd C X0 d23_29 30 ?_
              exact g_retI C X0 K d23_30 (by decide) (by decide) e0 ⟨by (unfold fSize; rw [if_pos hc3, if_neg hc24, if_neg hc24_1, if_neg hc24_2, if_neg hc24_3, if_pos hc24_4]) <;> rfl, N0, rfl⟩
          · refine g_iloadN C X0 d23_27 28 rfl ?_
            refine g_iloadN C X0 d23_28 29 rfl ?_
            refine g_iadd C X0 d23_29 30 ?_
            exact g_retI C X0 K d23_30 (by decide) (by decide) e0 ⟨by (unfold fSize; rw [if_pos hc3, if_neg hc24, if_neg hc24_1, if_neg hc24_2, if_pos hc24_3]) <;> rfl, N0, rfl⟩
        · refine g_iloadN C X0 d23_27 28 rfl ?_
          refine g_iloadN C X0 d23_28 29 rfl ?_
          refine g_iadd C X0 d23_29 30 ?_
          exact g_retI C X0 K d23_30 (by decide) (by decide) e0 ⟨by (unfold fSize; rw [if_pos hc3, if_neg hc24, if_neg hc24_1, if_pos hc24_2]) <;> rfl, N0, rfl⟩
      · refine g_iloadN C X0 d23_27 28 rfl ?_
        refine g_iloadN C X0 d23_28 29 rfl ?_
        refine g_iadd C X0 d23_29 30 ?_
        exact g_retI C X0 K d23_30 (by decide) (by decide) e0 ⟨by (unfold fSize; rw [if_pos hc3, if_neg hc24, if_pos hc24_1]) <;> rfl, N0, rfl⟩
    · refine g_iloadN C X0 d23_27 28 rfl ?_
      refine g_iloadN C X0 d23_28 29 rfl ?_
      refine g_iadd C X0 d23_29 30 ?_
      exact g_retI C X0 K d23_30 (by decide) (by decide) e0 ⟨by (unfold fSize; rw [if_pos hc3, if_pos hc24]) <;> rfl, N0, rfl⟩
  · refine g_iconst C X0 d23_6 7 (v := 0) rfl ?_
    refine g_istoreN C X0 d23_7 8 (w := 0) rfl (ls' := #[iv x0, iv 0, uu, uu]) rfl ?_
    refine g_iloadN C X0 d23_8 9 rfl ?_
    refine g_ineg C X0 d23_9 10 ?_
    refine g_istoreN C X0 d23_10 11 (w := (-x0)) rfl (ls' := #[iv (-x0), iv 0, uu, uu]) rfl ?_
    refine g_bipush C X0 d23_11 13 (v := -10) rfl ?_
    refine g_istoreN C X0 d23_13 14 (w := (-10 : Int32)) rfl (ls' := #[iv (-x0), iv 0, iv (-10 : Int32), uu]) rfl ?_
    refine g_iconst C X0 d23_14 15 (v := 1) rfl ?_
    refine g_istoreN C X0 d23_15 16 (w := 1) rfl (ls' := #[iv (-x0), iv 0, iv (-10 : Int32), iv 1]) rfl ?_
    refine g_iloadN C X0 d23_16 17 rfl ?_
    refine g_bipush C X0 d23_17 19 (v := 10) rfl ?_
    refine g_icmp_ge C X0 d23_19 42 22 (fun hc19 => absurd hc19 (by decide)) (fun hc19 => ?_)
    refine g_iloadN C X0 d23_22 23 rfl ?_
    refine g_iloadN C X0 d23_23 24 rfl ?_
    refine g_icmp_le C X0 d23_24 31 27 (fun hc24 => ?_) (fun hc24 => ?_)
    · refine g_bipush C X0 d23_31 33 (v := 10) rfl ?_
      refine g_iloadN C X0 d23_33 34 rfl ?_
      refine g_imul C X0 d23_34 35 ?_
      refine g_istoreN C X0 d23_35 36 (w := ((10 : Int32) * (-10 : Int32))) rfl (ls' := #[iv (-x0), iv 0, iv ((10 : Int32) * (-10 : Int32)), iv 1]) rfl ?_
      refine g_iinc C X0 d23_36 39 rfl (w := 2) rfl (ls' := #[iv (-x0), iv 0, iv ((10 : Int32) * (-10 : Int32)), iv 2]) rfl ?_
      refine g_goto C X0 d23_39 16 ?_
      refine g_iloadN C X0 d23_16 17 rfl ?_
      refine g_bipush C X0 d23_17 19 (v := 10) rfl ?_
      refine g_icmp_ge C X0 d23_19 42 22 (fun hc19_1 => absurd hc19_1 (by decide)) (fun hc19_1 => ?_)
      refine g_iloadN C X0 d23_22 23 rfl ?_
      refine g_iloadN C X0 d23_23 24 rfl ?_
      refine g_icmp_le C X0 d23_24 31 27 (fun hc24_1 => ?_) (fun hc24_1 => ?_)
      · refine g_bipush C X0 d23_31 33 (v := 10) rfl ?_
        refine g_iloadN C X0 d23_33 34 rfl ?_
        refine g_imul C X0 d23_34 35 ?_
        refine g_istoreN C X0 d23_35 36 (w := ((10 : Int32) * ((10 : Int32) * (-10 : Int32)))) rfl (ls' := #[iv (-x0), iv 0, iv ((10 : Int32) * ((10 : Int32) * (-10 : Int32))), iv 2]) rfl ?_
        refine g_iinc C X0 d23_36 39 rfl (w := 3) rfl (ls' := #[iv (-x0), iv 0, iv ((10 : Int32) * ((10 : Int32) * (-10 : Int32))), iv 3]) rfl ?_
        refine g_goto C X0 d23_39 16 ?_
        refine g_iloadN C X0 d23_16 17 rfl ?_
        refine g_bipush C X0 d23_17 19 (v := 10) rfl ?_
        refine g_icmp_ge C X0 d23_19 42 22 (fun hc19_2 => absurd hc19_2 (by decide)) (fun hc19_2 => ?_)
        refine g_iloadN C X0 d23_22 23 rfl ?_
        refine g_iloadN C X0 d23_23 24 rfl ?_
        refine g_icmp_le C X0 d23_24 31 27 (fun hc24_2 => ?_) (fun hc24_2 => ?_)
        · refine g_bipush C X0 d23_31 33 (v := 10) rfl ?_
          refine g_iloadN C X0 d23_33 34 rfl ?_
          refine g_imul C X0 d23_34 35 ?_
          refine g_istoreN C X0 d23_35 36 (w := ((10 : Int32) * ((10 : Int32) * ((10 : Int32) * (-10 : Int32))))) rfl (ls' := #[iv (-x0), iv 0, iv ((10 : Int32) * ((10 : Int32) * ((10 : Int32) * (-10 : Int32)))), iv 3]) rfl ?_
          refine g_iinc C X0 d23_36 39 rfl (w := 4) rfl (ls' := #[iv (-x0), iv 0, iv ((10 : Int32) * ((10 : Int32) * ((10 : Int32) * (-10 : Int32)))), iv 4]) rfl ?_
          refine g_goto C X0 d23_39 16 ?_
          refine g_iloadN C X0 d23_16 17 rfl ?_
          refine g_bipush C X0 d23_17 19 (v := 10) rfl ?_
          refine g_icmp_ge C X0 d23_19 42 22 (fun hc19_3 => absurd hc19_3 (by decide)) (fun hc19_3 => ?_)
          refine g_iloadN C X0 d23_22 23 rfl ?_
          refine g_iloadN C X0 d23_23 24 rfl ?_
          refine g_icmp_le C X0 d23_24 31 27 (fun hc24_3 => ?_) (fun hc24_3 => ?_)
          · refine g_bipush C X0 d23_31 33 (v := 10) rfl ?_
            refine g_iloadN C X0 d23_33 34 rfl ?_
            refine g_imul C X0 d23_34 35 ?_
            refine g_istoreN C X0 d23_35 36 (w := ((10 : Int32) * ((10 : Int32) * ((10 : Int32) * ((10 : Int32) * (-10 : Int32)))))) rfl (ls' := #[iv (-x0), iv 0, iv ((10 : Int32) * ((10 : Int32) * ((10 : Int32) * ((10 : Int32) * (-10 : Int32))))), iv 4]) rfl ?_
            refine g_iinc C X0 d23_36 39 rfl (w := 5) rfl (ls' := #[iv (-x0), iv 0, iv ((10 : Int32) * ((10 : Int32) * ((10 : Int32) * ((10 : Int32) * (-10 : Int32))))), iv 5]) rfl ?_
            refine g_goto C X0 d23_39 16 ?_
            refine g_iloadN C X0 d23_16 17 rfl ?_
            refine g_bipush C X0 d23_17 19 (v := 10) rfl ?_
            refine g_icmp_ge C X0 d23_19 42 22 (fun hc19_4 => absurd hc19_4 (by decide)) (fun hc19_4 => ?_)
            refine g_iloadN C X0 d23_22 23 rfl ?_
            refine g_iloadN C X0 d23_23 24 rfl ?_
            refine g_icmp_le C X0 d23_24 31 27 (fun hc24_4 => ?_) (fun hc24_4 => ?_)
            · refine g_bipush C X0 d23_31 33 (v := 10) rfl ?_
              refine g_iloadN C X0 d23_33 34 rfl ?_
              refine g_imul C X0 d23_34 35 ?_
              refine g_istoreN C X0 d23_35 36 (w := ((10 : Int32) * ((10 : Int32) * ((10 : Int32) * ((10 : Int32) * ((10 : Int32) * (-10 : Int32))))))) rfl (ls' := #[iv (-x0), iv 0, iv ((10 : Int32) * ((10 : Int32) * ((10 : Int32) * ((10 : Int32) * ((10 : Int32) * (-10 : Int32)))))), iv 5]) rfl ?_
              refine g_iinc C X0 d23_36 39 rfl (w := 6) rfl (ls' := #[iv (-x0), iv 0, iv ((10 : Int32) * ((10 : Int32) * ((10 : Int32) * ((10 : Int32) * ((10 : Int32) * (-10 : Int32)))))), iv 6]) rfl ?_
              refine g_goto C X0 d23_39 16 ?_
              refine g_iloadN C X0 d23_16 17 rfl ?_
              refine g_bipush C X0 d23_17 19 (v := 10) rfl ?_
              refine g_icmp_ge C X0 d23_19 42 22 (fun hc19_5 => absurd hc19_5 (by decide)) (fun hc19_5 => ?_)
              refine g_iloadN C X0 d23_22 23 rfl ?_
              refine g_iloadN C X0 d23_23 24 rfl ?_
              refine g_icmp_le C X0 d23_24 31 27 (fun hc24_5 => ?_) (fun hc24_5 => ?_)
              · refine g_bipush C X0 d23_31 33 (v := 10) rfl ?_
                refine g_iloadN C X0 d23_33 34 rfl ?_
                refine g_imul C X0 d23_34 35 ?_
                refine g_istoreN C X0 d23_35 36 (w := ((10 : Int32) * ((10 : Int32) * ((10 : Int32) * ((10 : Int32) * ((10 : Int32) * ((10 : Int32) * (-10 : Int32)))))))) rfl (ls' := #[iv (-x0), iv 0, iv ((10 : Int32) * ((10 : Int32) * ((10 : Int32) * ((10 : Int32) * ((10 : Int32) * ((10 : Int32) * (-10 : Int32))))))), iv 6]) rfl ?_
                refine g_iinc C X0 d23_36 39 rfl (w := 7) rfl (ls' := #[iv (-x0), iv 0, iv ((10 : Int32) * ((10 : Int32) * ((10 : Int32) * ((10 : Int32) * ((10 : Int32) * ((10 : Int32) * (-10 : Int32))))))), iv 7]) rfl ?_
                refine g_goto C X0 d23_39 16 ?_
                refine g_iloadN C X0 d23_16 17 rfl ?_
                refine g_bipush C X0 d23_17 19 (v := 10) rfl ?_
                refine g_icmp_ge C X0 d23_19 42 22 (fun hc19_6 => absurd hc19_6 (by decide)) (fun hc19_6 => ?_)
                refine g_iloadN C X0 d23_22 23 rfl ?_
                refine g_iloadN C X0 d23_23 24 rfl ?_
                refine g_icmp_le C X0 d23_24 31 27 (fun hc24_6 => ?_) (fun hc24_6 => ?_)
                · refine g_bipush C X0 d23_31 33 (v := 10) rfl ?_
                  refine g_iloadN C X0 d23_33 34 rfl ?_
                  refine g_imul C X0 d23_34 35 ?_
                  refine g_istoreN C X0 d23_35 36 (w := ((10 : Int32) * ((10 : Int32) * ((10 : Int32) * ((10 : Int32) * ((10 : Int32) * ((10 : Int32) * ((10 : Int32) * (-10 : Int32))))))))) rfl (ls' := #[iv (-x0), iv 0, iv ((10 : Int32) * ((10 : Int32) * ((10 : Int32) * ((10 : Int32) * ((10 : Int32) * ((10 : Int32) * ((10 : Int32) * (-10 : Int32)))))))), iv 7]) rfl ?_
                  refine g_iinc C X0 d23_36 39 rfl (w := 8) rfl (ls' := #[iv (-x0), iv 0, iv ((10 : Int32) * ((10 : Int32) * ((10 : Int32) * ((10 : Int32) * ((10 : Int32) * ((10 : Int32) * ((10 : Int32) * (-10 : Int32)))))))), iv 8]) rfl ?_
                  refine g_goto C X0 d23_39 16 ?_
                  refine g_iloadN C X0 d23_16 17 rfl ?_
                  refine g_bipush C X0 d23_17 19 (v := 10) rfl ?_
                  refine g_icmp_ge C X0 d23_19 42 22 (fun hc19_7 => absurd hc19_7 (by decide)) (fun hc19_7 => ?_)
                  refine g_iloadN C X0 d23_22 23 rfl ?_
                  refine g_iloadN C X0 d23_23 24 rfl ?_
                  refine g_icmp_le C X0 d23_24 31 27 (fun hc24_7 => ?_) (fun hc24_7 => ?_)
                  · refine g_bipush C X0 d23_31 33 (v := 10) rfl ?_
                    refine g_iloadN C X0 d23_33 34 rfl ?_
                    refine g_imul C X0 d23_34 35 ?_
                    refine g_istoreN C X0 d23_35 36 (w := ((10 : Int32) * ((10 : Int32) * ((10 : Int32) * ((10 : Int32) * ((10 : Int32) * ((10 : Int32) * ((10 : Int32) * ((10 : Int32) * (-10 : Int32)))))))))) rfl (ls' := #[iv (-x0), iv 0, iv ((10 : Int32) * ((10 : Int32) * ((10 : Int32) * ((10 : Int32) * ((10 : Int32) * ((10 : Int32) * ((10 : Int32) * ((10 : Int32) * (-10 : Int32))))))))), iv 8]) rfl ?_
                    refine g_iinc C X0 d23_36 39 rfl (w := 9) rfl (ls' := #[iv (-x0), iv 0, iv ((10 : Int32) * ((10 : Int32) * ((10 : Int32) * ((10 : Int32) * ((10 : Int32) * ((10 : Int32) * ((10 : Int32) * ((10 : Int32) * (-10 : Int32))))))))), iv 9]) rfl ?_
                    refine g_goto C X0 d23_39 16 ?_
                    refine g_iloadN C X0 d23_16 17 rfl ?_
                    refine g_bipush C X0 d23_17 19 (v := 10) rfl ?_
                    refine g_icmp_ge C X0 d23_19 42 22 (fun hc19_8 => absurd hc19_8 (by decide)) (fun hc19_8 => ?_)
                    refine g_iloadN C X0 d23_22 23 rfl ?_
                    refine g_iloadN C X0 d23_23 24 rfl ?_
                    refine g_icmp_le C X0 d23_24 31 27 (fun hc24_8 => ?_) (fun hc24_8 => ?_)
                    · refine g_bipush C X0 d23_31 33 (v := 10) rfl ?_
                      refine g_iloadN C X0 d23_33 34 rfl ?_
                      refine g_imul C X0 d23_34 35 ?_
                      refine g_istoreN C X0 d23_35 36 (w := ((10 : Int32) * ((10 : Int32) * ((10 : Int32) * ((10 : Int32) * ((10 : Int32) * ((10 : Int32) * ((10 : Int32) * ((10 : Int32) * ((10 : Int32) * (-10 : Int32))))))))))) rfl (ls' := #[iv (-x0), iv 0, iv ((10 : Int32) * ((10 : Int32) * ((10 : Int32) * ((10 : Int32) * ((10 : Int32) * ((10 : Int32) * ((10 : Int32) * ((10 : Int32) * ((10 : Int32) * (-10 : Int32)))))))))), iv 9]) rfl ?_
                      refine g_iinc C X0 d23_36 39 rfl (w := 10) rfl (ls' := #[iv (-x0), iv 0, iv ((10 : Int32) * ((10 : Int32) * ((10 : Int32) * ((10 : Int32) * ((10 : Int32) * ((10 : Int32) * ((10 : Int32) * ((10 : Int32) * ((10 : Int32) * (-10 : Int32)))))))))), iv 10]) rfl ?_
                      refine g_goto C X0 d23_39 16 ?_
                      refine g_iloadN C X0 d23_16 17 rfl ?_
                      refine g_bipush C X0 d23_17 19 (v := 10) rfl ?_
                      refine g_icmp_ge C X0 d23_19 42 22 (fun hc19_9 => ?_) (fun hc19_9 => absurd hc19_9 (by decide))
                      refine g_bipush C X0 d23_42 44 (v := 10) rfl ?_
                      refine g_iloadN C X0 d23_44 45 rfl ?_
                      refine g_iadd C X0 d23_45 46 ?_
                      exact g_retI C X0 K d23_46 (by decide) (by decide) e0 ⟨by (unfold fSize; rw [if_neg hc3, if_neg hc24, if_neg hc24_1, if_neg hc24_2, if_neg hc24_3, if_neg hc24_4, if_neg hc24_5, if_neg hc24_6, if_neg hc24_7, if_neg hc24_8]) <;> rfl, N0, rfl⟩
                    · refine g_iloadN C X0 d23_27 28 rfl ?_
                      refine g_iloadN C X0 d23_28 29 rfl ?_
                      refine g_iadd C X0 d23_29 30 ?_
                      exact g_retI C X0 K d23_30 (by decide) (by decide) e0 ⟨by (unfold fSize; rw [if_neg hc3, if_neg hc24, if_neg hc24_1, if_neg hc24_2, if_neg hc24_3, if_neg hc24_4, if_neg hc24_5, if_neg hc24_6, if_neg hc24_7, if_pos hc24_8]) <;> rfl, N0, rfl⟩
                  · refine g_iloadN C X0 d23_27 28 rfl ?_
                    refine g_iloadN C X0 d23_28 29 rfl ?_
                    refine g_iadd C X0 d23_29 30 ?_
                    exact g_retI C X0 K d23_30 (by decide) (by decide) e0 ⟨by (unfold fSize; rw [if_neg hc3, if_neg hc24, if_neg hc24_1, if_neg hc24_2, if_neg hc24_3, if_neg hc24_4, if_neg hc24_5, if_neg hc24_6, if_pos hc24_7]) <;> rfl, N0, rfl⟩
                · refine g_iloadN C X0 d23_27 28 rfl ?_
                  refine g_iloadN C X0 d23_28 29 rfl ?_
                  refine g_iadd C X0 d23_29 30 ?_
                  exact g_retI C X0 K d23_30 (by decide) (by decide) e0 ⟨by (unfold fSize; rw [if_neg hc3, if_neg hc24, if_neg hc24_1, if_neg hc24_2, if_neg hc24_3, if_neg hc24_4, if_neg hc24_5, if_pos hc24_6]) <;> rfl, N0, rfl⟩
              · refine g_iloadN C X0 d23_27 28 rfl ?_
                refine g_iloadN C X0 d23_28 29 rfl ?_
                refine g_iadd C X0 d23_29 30 ?_
                exact g_retI C X0 K d23_30 (by decide) (by decide) e0 ⟨by (unfold fSize; rw [if_neg hc3, if_neg hc24, if_neg hc24_1, if_neg hc24_2, if_neg hc24_3, if_neg hc24_4, if_pos hc24_5]) <;> rfl, N0, rfl⟩
            · refine g_iloadN C X0 d23_27 28 rfl ?_
              refine g_iloadN C X0 d23_28 29 rfl ?_
              refine g_iadd C X0 d23_29 30 ?_
              exact g_retI C X0 K d23_30 (by decide) (by decide) e0 ⟨by (unfold fSize; rw [if_neg hc3, if_neg hc24, if_neg hc24_1, if_neg hc24_2, if_neg hc24_3, if_pos hc24_4]) <;> rfl, N0, rfl⟩
          · refine g_iloadN C X0 d23_27 28 rfl ?_
            refine g_iloadN C X0 d23_28 29 rfl ?_
            refine g_iadd C X0 d23_29 30 ?_
            exact g_retI C X0 K d23_30 (by decide) (by decide) e0 ⟨by (unfold fSize; rw [if_neg hc3, if_neg hc24, if_neg hc24_1, if_neg hc24_2, if_pos hc24_3]) <;> rfl, N0, rfl⟩
        · refine g_iloadN C X0 d23_27 28 rfl ?_
          refine g_iloadN C X0 d23_28 29 rfl ?_
          refine g_iadd C X0 d23_29 30 ?_
          exact g_retI C X0 K d23_30 (by decide) (by decide) e0 ⟨by (unfold fSize; rw [if_neg hc3, if_neg hc24, if_neg hc24_1, if_pos hc24_2]) <;> rfl, N0, rfl⟩
      · refine g_iloadN C X0 d23_27 28 rfl ?_
        refine g_iloadN C X0 d23_28 29 rfl ?_
        refine g_iadd C X0 d23_29 30 ?_
        exact g_retI C X0 K d23_30 (by decide) (by decide) e0 ⟨by (unfold fSize; rw [if_neg hc3, if_neg hc24, if_pos hc24_1]) <;> rfl, N0, rfl⟩
    · refine g_iloadN C X0 d23_27 28 rfl ?_
      refine g_iloadN C X0 d23_28 29 rfl ?_
      refine g_iadd C X0 d23_29 30 ?_
      exact g_retI C X0 K d23_30 (by decide) (by decide) e0 ⟨by (unfold fSize; rw [if_neg hc3, if_pos hc24]) <;> rfl, N0, rfl⟩
def sizeT (x a : Int32) : Int32 := if (-10 : Int32) < x then ((1 : Int32) + a) else if ((10 : Int32) * (-10 : Int32)) < x then ((2 : Int32) + a) else if ((10 : Int32) * ((10 : Int32) * (-10 : Int32))) < x then ((3 : Int32) + a) else if ((10 : Int32) * ((10 : Int32) * ((10 : Int32) * (-10 : Int32)))) < x then ((4 : Int32) + a) else if ((10 : Int32) * ((10 : Int32) * ((10 : Int32) * ((10 : Int32) * (-10 : Int32))))) < x then ((5 : Int32) + a) else if ((10 : Int32) * ((10 : Int32) * ((10 : Int32) * ((10 : Int32) * ((10 : Int32) * (-10 : Int32)))))) < x then ((6 : Int32) + a) else if ((10 : Int32) * ((10 : Int32) * ((10 : Int32) * ((10 : Int32) * ((10 : Int32) * ((10 : Int32) * (-10 : Int32))))))) < x then ((7 : Int32) + a) else if ((10 : Int32) * ((10 : Int32) * ((10 : Int32) * ((10 : Int32) * ((10 : Int32) * ((10 : Int32) * ((10 : Int32) * (-10 : Int32)))))))) < x then ((8 : Int32) + a) else if ((10 : Int32) * ((10 : Int32) * ((10 : Int32) * ((10 : Int32) * ((10 : Int32) * ((10 : Int32) * ((10 : Int32) * ((10 : Int32) * (-10 : Int32))))))))) < x then ((9 : Int32) + a) else ((10 : Int32) + a)
theorem sizeT_eq {n : Nat} (hn : n ≤ 2 ^ 31) (a : Int32) : sizeT (ng n) a = Int32.ofNat (dg n) + a := by
  unfold sizeT dg
  simp only [ng_gt hn (-10 : Int32) 10 (by decide), ng_gt hn ((10 : Int32) * (-10 : Int32)) 100 (by decide), ng_gt hn ((10 : Int32) * ((10 : Int32) * (-10 : Int32))) 1000 (by decide), ng_gt hn ((10 : Int32) * ((10 : Int32) * ((10 : Int32) * (-10 : Int32)))) 10000 (by decide), ng_gt hn ((10 : Int32) * ((10 : Int32) * ((10 : Int32) * ((10 : Int32) * (-10 : Int32))))) 100000 (by decide), ng_gt hn ((10 : Int32) * ((10 : Int32) * ((10 : Int32) * ((10 : Int32) * ((10 : Int32) * (-10 : Int32)))))) 1000000 (by decide), ng_gt hn ((10 : Int32) * ((10 : Int32) * ((10 : Int32) * ((10 : Int32) * ((10 : Int32) * ((10 : Int32) * (-10 : Int32))))))) 10000000 (by decide), ng_gt hn ((10 : Int32) * ((10 : Int32) * ((10 : Int32) * ((10 : Int32) * ((10 : Int32) * ((10 : Int32) * ((10 : Int32) * (-10 : Int32)))))))) 100000000 (by decide), ng_gt hn ((10 : Int32) * ((10 : Int32) * ((10 : Int32) * ((10 : Int32) * ((10 : Int32) * ((10 : Int32) * ((10 : Int32) * ((10 : Int32) * (-10 : Int32))))))))) 1000000000 (by decide)]
  repeat' split
  all_goals rfl
theorem size_eq (v : Int32) : fSize v = Int32.ofNat (decI v).length := by
  have e0 : fSize v = if v < 0 then sizeT v 1 else sizeT (-v) 0 := rfl
  have h3 := natAbs_le v
  have key := ng_abs v
  have hl : (decI v).length = (sgn v).length + dg v.toInt.natAbs := by unfold decI; rw [List.length_append, low_length]
  rw [e0, hl]
  generalize v.toInt.natAbs = N at key h3
  unfold sgn
  by_cases hv : v < 0
  · rw [if_pos hv] at key ⊢
    rw [if_pos hv, key, sizeT_eq h3, Nat.add_comm]
    exact (Int32.ofNat_add (dg N) 1).symm
  · rw [if_neg hv] at key ⊢
    rw [if_neg hv, key, sizeT_eq h3, Int32.add_zero]
    show Int32.ofNat (dg N) = Int32.ofNat (0 + dg N)
    rw [Nat.zero_add]

def onesL : List Int32 := (List.range 100).map fun r => Int32.ofNat (48 + r % 10)
def tensL : List Int32 := (List.range 100).map fun r => Int32.ofNat (48 + r / 10)
theorem ones_get {r : Nat} (h : r < 100) : onesL.getD r 0 = ch (r % 10) := by unfold onesL ch; rw [List.getD_eq_getElem?_getD, List.getElem?_map, List.getElem?_range h]; rfl
theorem tens_get {r : Nat} (h : r < 100) : tensL.getD r 0 = ch (r / 10) := by unfold tensL ch; rw [List.getD_eq_getElem?_getD, List.getElem?_map, List.getElem?_range h]; rfl
theorem tab_in {r : Nat} {i : Int32} (hi : Int32.ofNat r = i) (h : r < 100) : ¬ i < 0 ∧ i < Int32.ofNat 100 := hi ▸ i_in r 100 h (by omega)
theorem nar_ch_fin : ∀ d : Fin 10, nar .byte (ch d.val) = ch d.val := by decide +kernel
theorem nar_ch {d : Nat} (h : d < 10) : nar .byte (ch d) = ch d := nar_ch_fin ⟨d, h⟩
theorem tab_ones {r : Nat} {i : Int32} (hi : Int32.ofNat r = i) (h : r < 100) : (onesL.map Value.int).getD i.toNatClampNeg (.int 0) = .int (ch (r % 10)) := by rw [own_get hi (by omega), ones_get h]
theorem tab_tens {r : Nat} {i : Int32} (hi : Int32.ofNat r = i) (h : r < 100) : (tensL.map Value.int).getD i.toNatClampNeg (.int 0) = .int (ch (r / 10)) := by rw [own_get hi (by omega), tens_get h]
theorem wl_set' {l : List Int32} {a b : Nat} {suf : List Int32} {x y : Int32} (hb : b = a + 1) (hx : x = y) : (wl l b suf).set (l.length + a) (.int x) = wl l a (y :: suf) := by subst hb hx; exact wl_set l a suf x
theorem pos_in {l : List Int32} {a c : Nat} (h : l.length + a < c) (hc : c ≤ 90) : ¬ Int32.ofNat (l.length + a) < 0 ∧ Int32.ofNat (l.length + a) < Int32.ofNat c := i_in _ _ h (by omega)
theorem pos_nat {l : List Int32} {a c : Nat} (h : l.length + a < c) (hc : c ≤ 90) : (Int32.ofNat (l.length + a)).toNatClampNeg = l.length + a := i_toNat _ (by omega)
theorem pos_dec {l : List Int32} {a b : Nat} (hb : b = a + 1) : Int32.ofNat (l.length + b) + Int32.ofInt (-1) = Int32.ofNat (l.length + a) := by subst hb; rw [← Nat.add_assoc]; exact i_dec _
theorem wl_lt {l : List Int32} {a b : Nat} {suf : List Int32} (hb : b = a + 1) : l.length + a < (wl l b suf).length := by rw [wl_length]; omega
theorem n31 {N j n : Nat} (hN : N ≤ 2 ^ 31) (hn : N / 10 ^ j = n) : n ≤ 2 ^ 31 := hn ▸ Nat.le_trans (Nat.div_le_self _ _) hN
theorem m100 : (-100 : Int32).toInt = -((100 : Nat) : Int) := by decide
theorem m9 : (-9 : Int32).toInt = -((9 : Nat) : Int) := by decide
theorem gc_two {N j n : Nat} (hN : N ≤ 2 ^ 31) (hn : N / 10 ^ j = n) (h : ¬ n < 100) : j + 2 < dg N := dg_le N (j + 2) hN (by rw [← div_two, hn]; omega)
theorem gc_one {N j n : Nat} (hN : N ≤ 2 ^ 31) (hn : N / 10 ^ j = n) (hj : j = 0 ∨ 1 ≤ n) : j < dg N := by
  rcases hj with rfl | h
  · exact (dg_pos N).1
  · exact dg_le N j hN (hn ▸ h)
theorem gc_end1 {N j n : Nat} (hN : N ≤ 2 ^ 31) (hn : N / 10 ^ j = n) (hj : j = 0 ∨ 1 ≤ n) (h : n < 10) : dg N = j + 1 := dg_eq N j hN (hn ▸ h) (hn ▸ hj)
theorem gc_end2 {N j n : Nat} (hN : N ≤ 2 ^ 31) (hn : N / 10 ^ j = n) (h : n < 100) (h9 : ¬ n < 10) : dg N = j + 2 := dg_eq N (j + 1) hN (by rw [Nat.pow_succ, ← Nat.div_div_eq_div_mul, hn]; omega) (Or.inr (by rw [Nat.pow_succ, ← Nat.div_div_eq_div_mul, hn]; omega))
theorem gc_low1 {N j n : Nat} (hn : N / 10 ^ j = n) : ch (n % 10) :: low N j = low N (j + 1) := by subst hn; rfl
theorem gc_low2 {N j n : Nat} (hn : N / 10 ^ j = n) (h : n < 100) : ch (n / 10) :: ch (n % 10) :: low N j = low N (j + 2) := by
  rw [← low_two, hn, Nat.mod_eq_of_lt h]
theorem gc_low3 {N j n : Nat} (hn : N / 10 ^ j = n) : ch (n % 100 / 10) :: ch (n % 100 % 10) :: low N j = low N (j + 2) := by rw [← low_two, hn]
theorem gc_gt {n : Nat} (hn : n ≤ 2 ^ 31) : (-100 : Int32) < ng n ↔ n < 100 := ng_gt hn _ 100 m100
theorem gc_ge9 {n : Nat} (hn : n ≤ 2 ^ 31) : ng n < (-9 : Int32) ↔ ¬ n < 10 := by rw [Int32.lt_iff_toInt_lt, ng_toInt hn, m9]; omega
theorem gc_fin {l suf : List Int32} {a : Nat} {x : Int32} (ha : a = 0) (hs : suf = decI x) : wl l a suf = (l ++ decI x).map Value.int := by subst ha hs; exact wl_zero _ _
theorem gc_szp {x : Int32} {N : Nat} (hN : x.toInt.natAbs = N) (h : ¬ x < 0) : (decI x).length = dg N + 0 ∧ decI x = low N (dg N) := by subst hN; unfold decI sgn; rw [if_neg h]; exact ⟨by rw [List.nil_append, low_length]; rfl, rfl⟩
theorem gc_szn {x : Int32} {N : Nat} (hN : x.toInt.natAbs = N) (h : x < 0) : (decI x).length = dg N + 1 ∧ decI x = 45 :: low N (dg N) := by subst hN; unfold decI sgn; rw [if_pos h]; exact ⟨by rw [List.length_append, low_length]; exact Nat.add_comm _ _, rfl⟩
theorem gc_in {x : Int32} {N : Nat} (hN : x.toInt.natAbs = N) (h : x < 0) : x = ng N := by have := ng_abs x; rw [if_pos h, hN] at this; exact this
theorem gc_ip {x : Int32} {N : Nat} (hN : x.toInt.natAbs = N) (h : ¬ x < 0) : -x = ng N := by have := ng_abs x; rw [if_neg h, hN] at this; exact this
theorem nar45 : nar .byte (45 : Int32) = 45 := by decide +kernel

theorem ef_25iir (m : MethodId) (a1 : Int32) (a2 : Int32) (a3 : Addr) : entryFrame m #[(.int a1), (.int a2), (.ref a3)] 7 = mkF m 0 #[iv a1, iv a2, rv a3, uu, uu, uu, uu] [] := by first | (simp [entryFrame, mkF, argsToLocals, Value.category, iv, rv, jv, nv, uu, sd]; done) | rfl
theorem d25_0 : decode jdk_33_method_12_code 0 = .ok (.iload_n 1, 1) := by decide +kernel
theorem d25_1 : decode jdk_33_method_12_code 1 = .ok (.istore 5, 2) := by decide +kernel
theorem d25_3 : decode jdk_33_method_12_code 3 = .ok (.iload_n 0, 1) := by decide +kernel
theorem d25_4 : decode jdk_33_method_12_code 4 = .ok (.ifCond .ge 7, 3) := by decide +kernel
theorem d25_11 : decode jdk_33_method_12_code 11 = .ok (.iconst 0, 1) := by decide +kernel
theorem d25_12 : decode jdk_33_method_12_code 12 = .ok (.istore 6, 2) := by decide +kernel
theorem d25_14 : decode jdk_33_method_12_code 14 = .ok (.iload 6, 2) := by decide +kernel
theorem d25_16 : decode jdk_33_method_12_code 16 = .ok (.ifCond .ne 6, 3) := by decide +kernel
theorem d25_19 : decode jdk_33_method_12_code 19 = .ok (.iload_n 0, 1) := by decide +kernel
theorem d25_20 : decode jdk_33_method_12_code 20 = .ok (.ineg, 1) := by decide +kernel
theorem d25_21 : decode jdk_33_method_12_code 21 = .ok (.istore_n 0, 1) := by decide +kernel
theorem d25_22 : decode jdk_33_method_12_code 22 = .ok (.iload_n 0, 1) := by decide +kernel
theorem d25_23 : decode jdk_33_method_12_code 23 = .ok (.bipush (-100), 2) := by decide +kernel
theorem d25_25 : decode jdk_33_method_12_code 25 = .ok (.if_icmp .gt 47, 3) := by decide +kernel
theorem d25_72 : decode jdk_33_method_12_code 72 = .ok (.aload_n 2, 1) := by decide +kernel
theorem d25_73 : decode jdk_33_method_12_code 73 = .ok (.iinc 5 (-1), 3) := by decide +kernel
theorem d25_76 : decode jdk_33_method_12_code 76 = .ok (.iload 5, 2) := by decide +kernel
theorem d25_78 : decode jdk_33_method_12_code 78 = .ok (.getstatic 83, 3) := by decide +kernel
theorem w_149 (hw : OwnW a0 Z) : Cond.before (.fieldLink "java/lang/Integer" (83 : Nat) "java/lang/Integer" "DigitOnes" "[B") a0 Z = true := wA hw 149 rfl
theorem d25_81 : decode jdk_33_method_12_code 81 = .ok (.iload_n 0, 1) := by decide +kernel
theorem d25_82 : decode jdk_33_method_12_code 82 = .ok (.ineg, 1) := by decide +kernel
theorem d25_83 : decode jdk_33_method_12_code 83 = .ok (.baload, 1) := by decide +kernel
theorem d25_84 : decode jdk_33_method_12_code 84 = .ok (.bastore, 1) := by decide +kernel
theorem d25_85 : decode jdk_33_method_12_code 85 = .ok (.iload_n 0, 1) := by decide +kernel
theorem d25_86 : decode jdk_33_method_12_code 86 = .ok (.bipush (-9), 2) := by decide +kernel
theorem d25_88 : decode jdk_33_method_12_code 88 = .ok (.if_icmp .ge 16, 3) := by decide +kernel
theorem d25_104 : decode jdk_33_method_12_code 104 = .ok (.iload 6, 2) := by decide +kernel
theorem d25_106 : decode jdk_33_method_12_code 106 = .ok (.ifCond .eq 12, 3) := by decide +kernel
theorem d25_118 : decode jdk_33_method_12_code 118 = .ok (.iload 5, 2) := by decide +kernel
theorem d25_120 : decode jdk_33_method_12_code 120 = .ok (.ireturn, 1) := by decide +kernel
theorem d25_91 : decode jdk_33_method_12_code 91 = .ok (.aload_n 2, 1) := by decide +kernel
theorem d25_92 : decode jdk_33_method_12_code 92 = .ok (.iinc 5 (-1), 3) := by decide +kernel
theorem d25_95 : decode jdk_33_method_12_code 95 = .ok (.iload 5, 2) := by decide +kernel
theorem d25_97 : decode jdk_33_method_12_code 97 = .ok (.getstatic 87, 3) := by decide +kernel
theorem w_246 (hw : OwnW a0 Z) : Cond.before (.fieldLink "java/lang/Integer" (87 : Nat) "java/lang/Integer" "DigitTens" "[B") a0 Z = true := wA hw 246 rfl
theorem d25_100 : decode jdk_33_method_12_code 100 = .ok (.iload_n 0, 1) := by decide +kernel
theorem d25_101 : decode jdk_33_method_12_code 101 = .ok (.ineg, 1) := by decide +kernel
theorem d25_102 : decode jdk_33_method_12_code 102 = .ok (.baload, 1) := by decide +kernel
theorem d25_103 : decode jdk_33_method_12_code 103 = .ok (.bastore, 1) := by decide +kernel
theorem d25_28 : decode jdk_33_method_12_code 28 = .ok (.iload_n 0, 1) := by decide +kernel
theorem d25_29 : decode jdk_33_method_12_code 29 = .ok (.bipush 100, 2) := by decide +kernel
theorem d25_31 : decode jdk_33_method_12_code 31 = .ok (.idiv, 1) := by decide +kernel
theorem d25_32 : decode jdk_33_method_12_code 32 = .ok (.istore_n 3, 1) := by decide +kernel
theorem d25_33 : decode jdk_33_method_12_code 33 = .ok (.iload_n 3, 1) := by decide +kernel
theorem d25_34 : decode jdk_33_method_12_code 34 = .ok (.bipush 100, 2) := by decide +kernel
theorem d25_36 : decode jdk_33_method_12_code 36 = .ok (.imul, 1) := by decide +kernel
theorem d25_37 : decode jdk_33_method_12_code 37 = .ok (.iload_n 0, 1) := by decide +kernel
theorem d25_38 : decode jdk_33_method_12_code 38 = .ok (.isub, 1) := by decide +kernel
theorem d25_39 : decode jdk_33_method_12_code 39 = .ok (.istore 4, 2) := by decide +kernel
theorem d25_41 : decode jdk_33_method_12_code 41 = .ok (.iload_n 3, 1) := by decide +kernel
theorem d25_42 : decode jdk_33_method_12_code 42 = .ok (.istore_n 0, 1) := by decide +kernel
theorem d25_43 : decode jdk_33_method_12_code 43 = .ok (.aload_n 2, 1) := by decide +kernel
theorem d25_44 : decode jdk_33_method_12_code 44 = .ok (.iinc 5 (-1), 3) := by decide +kernel
theorem d25_47 : decode jdk_33_method_12_code 47 = .ok (.iload 5, 2) := by decide +kernel
theorem d25_49 : decode jdk_33_method_12_code 49 = .ok (.getstatic 83, 3) := by decide +kernel
theorem d25_52 : decode jdk_33_method_12_code 52 = .ok (.iload 4, 2) := by decide +kernel
theorem d25_54 : decode jdk_33_method_12_code 54 = .ok (.baload, 1) := by decide +kernel
theorem d25_55 : decode jdk_33_method_12_code 55 = .ok (.bastore, 1) := by decide +kernel
theorem d25_56 : decode jdk_33_method_12_code 56 = .ok (.aload_n 2, 1) := by decide +kernel
theorem d25_57 : decode jdk_33_method_12_code 57 = .ok (.iinc 5 (-1), 3) := by decide +kernel
theorem d25_60 : decode jdk_33_method_12_code 60 = .ok (.iload 5, 2) := by decide +kernel
theorem d25_62 : decode jdk_33_method_12_code 62 = .ok (.getstatic 87, 3) := by decide +kernel
theorem d25_65 : decode jdk_33_method_12_code 65 = .ok (.iload 4, 2) := by decide +kernel
theorem d25_67 : decode jdk_33_method_12_code 67 = .ok (.baload, 1) := by decide +kernel
theorem d25_68 : decode jdk_33_method_12_code 68 = .ok (.bastore, 1) := by decide +kernel
theorem d25_69 : decode jdk_33_method_12_code 69 = .ok (.goto (-47), 3) := by decide +kernel
theorem d25_7 : decode jdk_33_method_12_code 7 = .ok (.iconst 1, 1) := by decide +kernel
theorem d25_8 : decode jdk_33_method_12_code 8 = .ok (.goto 4, 3) := by decide +kernel
theorem d25_109 : decode jdk_33_method_12_code 109 = .ok (.aload_n 2, 1) := by decide +kernel
theorem d25_110 : decode jdk_33_method_12_code 110 = .ok (.iinc 5 (-1), 3) := by decide +kernel
theorem d25_113 : decode jdk_33_method_12_code 113 = .ok (.iload 5, 2) := by decide +kernel
theorem d25_115 : decode jdk_33_method_12_code 115 = .ok (.bipush 45, 2) := by decide +kernel
theorem d25_117 : decode jdk_33_method_12_code 117 = .ok (.bastore, 1) := by decide +kernel
def Q25 (Z : State) (x1 : Int32) (i1 : Int32) (o2 : Addr) (kd1 : ClassId) (c1 : Nat) (l1 : List Int32) (nn1 : Nat) (o7 : Addr) (o8 : Addr) (kd7 : ClassId) (kd8 : ClassId) (h0 : Heap) (n0 : Nat) (v : Option Value) (h : Heap) (L : List Loc) : Prop := v = some (.int (Int32.ofNat l1.length)) ∧ Fr n0 L ∧ Keep h0 h [o2] ∧ Arv Z h o2 kd1 .byte (Int32.ofNat c1) ((l1 ++ decI x1).map Value.int) (.int 0)
abbrev y25 : MethodName := (⟨"java/lang/Integer", "getChars", "(II[B)I"⟩ : MethodName)
theorem rm25 {x1 i1 : Int32} {o2 o7 o8 : Addr} {kd1 kd7 kd8 : ClassId} {c1 nn1 : Nat} {l1 : List Int32} (hw : OwnW a0 Z) (Z0 : n0 ≤ h0.size) (F0 : Arv Z h0 o2 kd1 .byte (Int32.ofNat c1) (l1.map Value.int) (.int 0)) (F1 : Sta Z h0 "java/lang/Integer" "DigitOnes" "[B" (.ref o7)) (F2 : Sta Z h0 "java/lang/Integer" "DigitTens" "[B" (.ref o8)) (F3 : Arv Z h0 o7 kd7 .byte (Int32.ofNat 100) (onesL.map Value.int) (.int 0)) (F4 : Arv Z h0 o8 kd8 .byte (Int32.ofNat 100) (tensL.map Value.int) (.int 0)) (gn_o2 : n0 ≤ o2) (hN : x1.toInt.natAbs = nn1) (hi : Int32.ofNat (l1.length + (decI x1).length) = i1) (hf : l1.length + (decI x1).length ≤ c1) (hc : c1 ≤ 90) (ne_o2_o7 : o2 ≠ o7) (ne_o2_o8 : o2 ≠ o8) : OwnMF l Z y25 jdk_33_method_12_code 7 (some .int) ws ⟨0, 0, 0, 0⟩ #[(.int x1), (.int i1), (.ref o2)] h0 (Q25 Z x1 i1 o2 kd1 c1 l1 nn1 o7 o8 kd7 kd8 h0 n0) := by
  refine bo (plainFor_of_name pn_23) ?_
  intro p e s m below meth c T0 G C hnm hnamed X0 e0 K
  have N0 := Fr.nil n0
  refine Goes.to (congrArg T0.setTop (ef_25iir m x1 i1 o2)) ?_
  have K00 := Keep.refl h0 [o2]
  refine g_iloadN C X0 d25_0 1 rfl ?_
  refine g_istore C X0 d25_1 3 (w := i1) rfl (ls' := #[iv x1, iv i1, rv o2, uu, uu, iv i1, uu]) rfl ?_
  refine g_iloadN C X0 d25_3 4 rfl ?_
  refine g_if_ge C X0 d25_4 11 7 (fun hc4 => ?_) (fun hc4 => ?_)
  · refine g_iconst C X0 d25_11 12 (v := 0) rfl ?_
    refine g_istore C X0 d25_12 14 (w := 0) rfl (ls' := #[iv x1, iv i1, rv o2, uu, uu, iv i1, iv 0]) rfl ?_
    refine g_iload C X0 d25_14 16 rfl ?_
    refine g_if_ne C X0 d25_16 22 19 (fun hc16 => absurd hc16 (by decide)) (fun hc16 => ?_)
    refine g_iloadN C X0 d25_19 20 rfl ?_
    refine g_ineg C X0 d25_20 21 ?_
    refine g_istoreN C X0 d25_21 22 (w := (-x1)) rfl (ls' := #[iv (-x1), iv i1, rv o2, uu, uu, iv i1, iv 0]) rfl ?_
    obtain ⟨hsz, hdec⟩ := gc_szp hN hc4
    have hN31 : nn1 ≤ 2 ^ 31 := hN ▸ natAbs_le x1
    have loop : ∀ (n j a : Nat) (q3 q4 : Slot) (T : State) (L : List Loc) (h : Heap), nn1 / 10 ^ j = n → (j = 0 ∨ 1 ≤ n) → a + j = dg nn1 + 0 → (q3 = uu ∨ ∃ z, q3 = iv z) → (q4 = uu ∨ ∃ z, q4 = iv z) → Stand p l e (⟨0, 0, 0, 0⟩ : Room) s m #[.int x1, .int i1, .ref o2] below meth c T L 0 0 → T.heap = h → Fr n0 L → Keep h0 h [o2] → n0 ≤ h.size → Sta Z h "java/lang/Integer" "DigitOnes" "[B" (.ref o7) → Sta Z h "java/lang/Integer" "DigitTens" "[B" (.ref o8) → Arv Z h o7 kd7 .byte (Int32.ofNat 100) (onesL.map Value.int) (.int 0) → Arv Z h o8 kd8 .byte (Int32.ofNat 100) (tensL.map Value.int) (.int 0) → Arv Z h o2 kd1 .byte (Int32.ofNat c1) (wl l1 a (low nn1 j)) (.int 0) → Goes p.tables e below G (T.setTop (mkF m 22 #[iv (ng n), iv i1, rv o2, q3, q4, iv (Int32.ofNat (l1.length + a)), iv 0] [])) := by
      intro n
      induction n using Nat.strongRecOn with
      | _ n ih =>
        intro j a q3 q4 T L h hn hj ha hq3 hq4 XL eL NL KL ZL S7 S8 V7 V8 V2
        have h31 := n31 hN31 hn
        refine g_iloadN C XL d25_22 23 rfl ?_
        refine g_bipush C XL d25_23 25 (v := -100) rfl ?_
        refine g_icmp_gt C XL d25_25 72 28 (fun hc25 => ?_) (fun hc25 => ?_)
        · have hlt : n < 100 := (gc_gt h31).mp hc25
          have hd := gc_one hN31 hn hj
          refine g_aloadN C XL d25_72 73 rfl rfl ?_
          refine g_iinc C XL d25_73 76 rfl (w := (Int32.ofNat (l1.length + (a - 1)))) (pos_dec (by omega)) (ls' := #[iv (ng n), iv i1, rv o2, q3, q4, iv (Int32.ofNat (l1.length + (a - 1))), iv 0]) rfl ?_
          refine g_iload C XL d25_76 78 rfl ?_
          refine g_getS C XL (w_149 hw) Via.refl eL S7 d25_78 81 (fun T1 X1 e1 => ?_)
          refine g_iloadN C X1 d25_81 82 rfl ?_
          refine g_ineg C X1 d25_82 83 ?_
          refine g_baload C X1 e1 V7 (tab_in (ng_neg (Nat.lt_of_le_of_lt (Nat.le_of_lt hlt) (by decide))).symm hlt) (v := (.int (ch (n % 10)))) (tab_ones (ng_neg (Nat.lt_of_le_of_lt (Nat.le_of_lt hlt) (by decide))).symm hlt) d25_83 84 ?_
          refine g_bastore C X1 (i := (l1.length + (a - 1))) e1 V2 (pos_in (by omega) hc) (pos_nat (by omega) hc) (wl_lt (by omega)) d25_84 85 (fun T2 h2 X2 e2 W2 A2 => ?_)
          have f4 := S8.wr W2
          have f6 := V8.other W2 (Ne.symm ne_o2_o8)
          have f7 : Arv Z h2 o2 kd1 .byte (Int32.ofNat c1) (wl l1 (a - 1) (ch (n % 10) :: (low nn1 j))) (.int 0) := (wl_set' (l := l1) (a := (a - 1)) (b := a) (suf := (low nn1 j)) (by omega) (nar_ch (Nat.mod_lt _ (by decide)))) ▸ A2
          have N2 := Fr.snoc X2 NL gn_o2
          have K2 := KL.wr W2 (Or.inl (List.mem_of_getElem? (i := 0) rfl))
          refine g_iloadN C X2 d25_85 86 rfl ?_
          refine g_bipush C X2 d25_86 88 (v := -9) rfl ?_
          refine g_icmp_ge C X2 d25_88 104 91 (fun hc88 => ?_) (fun hc88 => ?_)
          · refine g_iload C X2 d25_104 106 rfl ?_
            refine g_if_eq C X2 d25_106 118 109 (fun hc106 => ?_) (fun hc106 => absurd hc106 (by decide))
            have he := gc_end1 hN31 hn hj (Classical.byContradiction fun q => hc88 ((gc_ge9 h31).mpr q))
            have hz : (a - 1) = 0 := by omega
            have f8 : Arv Z h2 o2 kd1 .byte (Int32.ofNat c1) ((l1 ++ decI x1).map Value.int) (.int 0) := by rw [← gc_fin hz (by rw [hdec, he, ← gc_low1 hn])]; exact f7
            refine g_iload C X2 d25_118 120 rfl ?_
            exact g_retI C X2 K d25_120 (by decide) (by decide) e2 ⟨(by rw [hz, Nat.add_zero]), N2, K2, f8⟩
          · have h9 := (gc_ge9 h31).mp hc88
            have he := gc_end2 hN31 hn hlt h9
            refine g_aloadN C X2 d25_91 92 rfl rfl ?_
            refine g_iinc C X2 d25_92 95 rfl (w := (Int32.ofNat (l1.length + ((a - 1) - 1)))) (pos_dec (by omega)) (ls' := #[iv (ng n), iv i1, rv o2, q3, q4, iv (Int32.ofNat (l1.length + ((a - 1) - 1))), iv 0]) rfl ?_
            refine g_iload C X2 d25_95 97 rfl ?_
            refine g_getS C X2 (w_246 hw) Via.refl e2 f4 d25_97 100 (fun T9 X9 e9 => ?_)
            refine g_iloadN C X9 d25_100 101 rfl ?_
            refine g_ineg C X9 d25_101 102 ?_
            refine g_baload C X9 e9 f6 (tab_in (ng_neg (Nat.lt_of_le_of_lt (Nat.le_of_lt hlt) (by decide))).symm hlt) (v := (.int (ch (n / 10)))) (tab_tens (ng_neg (Nat.lt_of_le_of_lt (Nat.le_of_lt hlt) (by decide))).symm hlt) d25_102 103 ?_
            refine g_bastore C X9 (i := (l1.length + ((a - 1) - 1))) e9 f7 (pos_in (by omega) hc) (pos_nat (by omega) hc) (wl_lt (by omega)) d25_103 104 (fun T10 h10 X10 e10 W10 A10 => ?_)
            have f15 : Arv Z h10 o2 kd1 .byte (Int32.ofNat c1) (wl l1 ((a - 1) - 1) (ch (n / 10) :: (ch (n % 10) :: (low nn1 j)))) (.int 0) := (wl_set' (l := l1) (a := ((a - 1) - 1)) (b := (a - 1)) (suf := (ch (n % 10) :: (low nn1 j))) (by omega) (nar_ch (d := n / 10) (by omega))) ▸ A10
            have N10 := Fr.snoc X10 N2 gn_o2
            have K10 := K2.wr W10 (Or.inl (List.mem_of_getElem? (i := 0) rfl))
            refine g_iload C X10 d25_104 106 rfl ?_
            refine g_if_eq C X10 d25_106 118 109 (fun hc106 => ?_) (fun hc106 => absurd hc106 (by decide))
            have hz : ((a - 1) - 1) = 0 := by omega
            have f16 : Arv Z h10 o2 kd1 .byte (Int32.ofNat c1) ((l1 ++ decI x1).map Value.int) (.int 0) := by rw [← gc_fin hz (by rw [hdec, he, ← gc_low2 hn hlt])]; exact f15
            refine g_iload C X10 d25_118 120 rfl ?_
            exact g_retI C X10 K d25_120 (by decide) (by decide) e10 ⟨(by rw [hz, Nat.add_zero]), N10, K10, f16⟩
        · have hge : ¬ n < 100 := fun q => hc25 ((gc_gt h31).mpr q)
          have hd := gc_two hN31 hn hge
          refine g_iloadN C XL d25_28 29 rfl ?_
          refine g_bipush C XL d25_29 31 (v := 100) rfl ?_
          refine g_idiv C XL d25_31 32 (by decide) ?_
          refine g_istoreN C XL d25_32 33 (w := ((ng n) / (100 : Int32))) rfl (ls' := #[iv (ng n), iv i1, rv o2, iv ((ng n) / (100 : Int32)), q4, iv (Int32.ofNat (l1.length + a)), iv 0]) (by rcases hq3 with rfl | ⟨z, rfl⟩ <;> rcases hq4 with rfl | ⟨z, rfl⟩ <;> rfl) ?_
          refine g_iloadN C XL d25_33 34 rfl ?_
          refine g_bipush C XL d25_34 36 (v := 100) rfl ?_
          refine g_imul C XL d25_36 37 ?_
          refine g_iloadN C XL d25_37 38 rfl ?_
          refine g_isub C XL d25_38 39 ?_
          refine g_istore C XL d25_39 41 (w := ((((ng n) / (100 : Int32)) * (100 : Int32)) - (ng n))) rfl (ls' := #[iv (ng n), iv i1, rv o2, iv ((ng n) / (100 : Int32)), iv ((((ng n) / (100 : Int32)) * (100 : Int32)) - (ng n)), iv (Int32.ofNat (l1.length + a)), iv 0]) (by rcases hq4 with rfl | ⟨z, rfl⟩ <;> rfl) ?_
          refine g_iloadN C XL d25_41 42 rfl ?_
          refine g_istoreN C XL d25_42 43 (w := ((ng n) / (100 : Int32))) rfl (ls' := #[iv ((ng n) / (100 : Int32)), iv i1, rv o2, iv ((ng n) / (100 : Int32)), iv ((((ng n) / (100 : Int32)) * (100 : Int32)) - (ng n)), iv (Int32.ofNat (l1.length + a)), iv 0]) rfl ?_
          refine g_aloadN C XL d25_43 44 rfl rfl ?_
          refine g_iinc C XL d25_44 47 rfl (w := (Int32.ofNat (l1.length + (a - 1)))) (pos_dec (by omega)) (ls' := #[iv ((ng n) / (100 : Int32)), iv i1, rv o2, iv ((ng n) / (100 : Int32)), iv ((((ng n) / (100 : Int32)) * (100 : Int32)) - (ng n)), iv (Int32.ofNat (l1.length + (a - 1))), iv 0]) rfl ?_
          refine g_iload C XL d25_47 49 rfl ?_
          refine g_getS C XL (w_149 hw) Via.refl eL S7 d25_49 52 (fun T17 X17 e17 => ?_)
          refine g_iload C X17 d25_52 54 rfl ?_
          refine g_baload C X17 e17 V7 (tab_in (show Int32.ofNat (n % 100) = _ from by rw [ng_div h31]; exact (ng_rem h31).symm) (Nat.mod_lt n (by decide))) (v := (.int (ch (n % 100 % 10)))) (tab_ones (show Int32.ofNat (n % 100) = _ from by rw [ng_div h31]; exact (ng_rem h31).symm) (Nat.mod_lt n (by decide))) d25_54 55 ?_
          refine g_bastore C X17 (i := (l1.length + (a - 1))) e17 V2 (pos_in (by omega) hc) (pos_nat (by omega) hc) (wl_lt (by omega)) d25_55 56 (fun T18 h18 X18 e18 W18 A18 => ?_)
          have f19 := S7.wr W18
          have f20 := S8.wr W18
          have f21 := V7.other W18 (Ne.symm ne_o2_o7)
          have f22 := V8.other W18 (Ne.symm ne_o2_o8)
          have f23 : Arv Z h18 o2 kd1 .byte (Int32.ofNat c1) (wl l1 (a - 1) (ch (n % 100 % 10) :: (low nn1 j))) (.int 0) := (wl_set' (l := l1) (a := (a - 1)) (b := a) (suf := (low nn1 j)) (by omega) (nar_ch (Nat.mod_lt _ (by decide)))) ▸ A18
          have N18 := Fr.snoc X18 NL gn_o2
          have Z18 := Nat.le_trans ZL (Nat.le_of_eq W18.size.symm)
          have K18 := KL.wr W18 (Or.inl (List.mem_of_getElem? (i := 0) rfl))
          refine g_aloadN C X18 d25_56 57 rfl rfl ?_
          refine g_iinc C X18 d25_57 60 rfl (w := (Int32.ofNat (l1.length + ((a - 1) - 1)))) (pos_dec (by omega)) (ls' := #[iv ((ng n) / (100 : Int32)), iv i1, rv o2, iv ((ng n) / (100 : Int32)), iv ((((ng n) / (100 : Int32)) * (100 : Int32)) - (ng n)), iv (Int32.ofNat (l1.length + ((a - 1) - 1))), iv 0]) rfl ?_
          refine g_iload C X18 d25_60 62 rfl ?_
          refine g_getS C X18 (w_246 hw) Via.refl e18 f20 d25_62 65 (fun T24 X24 e24 => ?_)
          refine g_iload C X24 d25_65 67 rfl ?_
          refine g_baload C X24 e24 f22 (tab_in (show Int32.ofNat (n % 100) = _ from by rw [ng_div h31]; exact (ng_rem h31).symm) (Nat.mod_lt n (by decide))) (v := (.int (ch (n % 100 / 10)))) (tab_tens (show Int32.ofNat (n % 100) = _ from by rw [ng_div h31]; exact (ng_rem h31).symm) (Nat.mod_lt n (by decide))) d25_67 68 ?_
          refine g_bastore C X24 (i := (l1.length + ((a - 1) - 1))) e24 f23 (pos_in (by omega) hc) (pos_nat (by omega) hc) (wl_lt (by omega)) d25_68 69 (fun T25 h25 X25 e25 W25 A25 => ?_)
          have f26 := f19.wr W25
          have f27 := f20.wr W25
          have f28 := f21.other W25 (Ne.symm ne_o2_o7)
          have f29 := f22.other W25 (Ne.symm ne_o2_o8)
          have f30 : Arv Z h25 o2 kd1 .byte (Int32.ofNat c1) (wl l1 ((a - 1) - 1) (ch (n % 100 / 10) :: (ch (n % 100 % 10) :: (low nn1 j)))) (.int 0) := (wl_set' (l := l1) (a := ((a - 1) - 1)) (b := (a - 1)) (suf := (ch (n % 100 % 10) :: (low nn1 j))) (by omega) (nar_ch (d := n % 100 / 10) (by omega))) ▸ A25
          have N25 := Fr.snoc X25 N18 gn_o2
          have Z25 := Nat.le_trans Z18 (Nat.le_of_eq W25.size.symm)
          have K25 := K18.wr W25 (Or.inl (List.mem_of_getElem? (i := 0) rfl))
          refine g_goto C X25 d25_69 22 ?_
          rw [ng_div h31]
          have fL : Arv Z h25 o2 kd1 .byte (Int32.ofNat c1) (wl l1 ((a - 1) - 1) (low nn1 (j + 2))) (.int 0) := by rw [← gc_low3 hn]; exact f30
          exact ih (n / 100) (by omega) (j + 2) ((a - 1) - 1) _ _ _ _ _ (by rw [← div_two, hn]) (Or.inr (by omega)) (by omega) (Or.inr ⟨_, rfl⟩) (Or.inr ⟨_, rfl⟩) X25 e25 N25 K25 Z25 f26 f27 f28 f29 fL
    have fP : Arv Z h0 o2 kd1 .byte (Int32.ofNat c1) (wl l1 (decI x1).length (low nn1 0)) (.int 0) := by rw [show low nn1 0 = [] from rfl, wl_pad]; exact F0.pad (pad_rep _ _ _)
    rw [gc_ip hN hc4]
    have := loop nn1 0 (decI x1).length uu uu _ _ _ (by simp) (Or.inl rfl) (by omega) (Or.inl rfl) (Or.inl rfl) X0 e0 N0 K00 Z0 F1 F2 F3 F4 fP
    rw [hi] at this
    exact this
  · refine g_iconst C X0 d25_7 8 (v := 1) rfl ?_
    refine g_goto C X0 d25_8 12 ?_
    refine g_istore C X0 d25_12 14 (w := 1) rfl (ls' := #[iv x1, iv i1, rv o2, uu, uu, iv i1, iv 1]) rfl ?_
    refine g_iload C X0 d25_14 16 rfl ?_
    refine g_if_ne C X0 d25_16 22 19 (fun hc16 => ?_) (fun hc16 => absurd hc16 (by decide))
    obtain ⟨hsz, hdec⟩ := gc_szn hN hc4
    have hN31 : nn1 ≤ 2 ^ 31 := hN ▸ natAbs_le x1
    have loop : ∀ (n j a : Nat) (q3 q4 : Slot) (T : State) (L : List Loc) (h : Heap), nn1 / 10 ^ j = n → (j = 0 ∨ 1 ≤ n) → a + j = dg nn1 + 1 → (q3 = uu ∨ ∃ z, q3 = iv z) → (q4 = uu ∨ ∃ z, q4 = iv z) → Stand p l e (⟨0, 0, 0, 0⟩ : Room) s m #[.int x1, .int i1, .ref o2] below meth c T L 0 0 → T.heap = h → Fr n0 L → Keep h0 h [o2] → n0 ≤ h.size → Sta Z h "java/lang/Integer" "DigitOnes" "[B" (.ref o7) → Sta Z h "java/lang/Integer" "DigitTens" "[B" (.ref o8) → Arv Z h o7 kd7 .byte (Int32.ofNat 100) (onesL.map Value.int) (.int 0) → Arv Z h o8 kd8 .byte (Int32.ofNat 100) (tensL.map Value.int) (.int 0) → Arv Z h o2 kd1 .byte (Int32.ofNat c1) (wl l1 a (low nn1 j)) (.int 0) → Goes p.tables e below G (T.setTop (mkF m 22 #[iv (ng n), iv i1, rv o2, q3, q4, iv (Int32.ofNat (l1.length + a)), iv 1] [])) := by
      intro n
      induction n using Nat.strongRecOn with
      | _ n ih =>
        intro j a q3 q4 T L h hn hj ha hq3 hq4 XL eL NL KL ZL S7 S8 V7 V8 V2
        have h31 := n31 hN31 hn
        refine g_iloadN C XL d25_22 23 rfl ?_
        refine g_bipush C XL d25_23 25 (v := -100) rfl ?_
        refine g_icmp_gt C XL d25_25 72 28 (fun hc25 => ?_) (fun hc25 => ?_)
        · have hlt : n < 100 := (gc_gt h31).mp hc25
          have hd := gc_one hN31 hn hj
          refine g_aloadN C XL d25_72 73 rfl rfl ?_
          refine g_iinc C XL d25_73 76 rfl (w := (Int32.ofNat (l1.length + (a - 1)))) (pos_dec (by omega)) (ls' := #[iv (ng n), iv i1, rv o2, q3, q4, iv (Int32.ofNat (l1.length + (a - 1))), iv 1]) rfl ?_
          refine g_iload C XL d25_76 78 rfl ?_
          refine g_getS C XL (w_149 hw) Via.refl eL S7 d25_78 81 (fun T31 X31 e31 => ?_)
          refine g_iloadN C X31 d25_81 82 rfl ?_
          refine g_ineg C X31 d25_82 83 ?_
          refine g_baload C X31 e31 V7 (tab_in (ng_neg (Nat.lt_of_le_of_lt (Nat.le_of_lt hlt) (by decide))).symm hlt) (v := (.int (ch (n % 10)))) (tab_ones (ng_neg (Nat.lt_of_le_of_lt (Nat.le_of_lt hlt) (by decide))).symm hlt) d25_83 84 ?_
          refine g_bastore C X31 (i := (l1.length + (a - 1))) e31 V2 (pos_in (by omega) hc) (pos_nat (by omega) hc) (wl_lt (by omega)) d25_84 85 (fun T32 h32 X32 e32 W32 A32 => ?_)
          have f34 := S8.wr W32
          have f36 := V8.other W32 (Ne.symm ne_o2_o8)
          have f37 : Arv Z h32 o2 kd1 .byte (Int32.ofNat c1) (wl l1 (a - 1) (ch (n % 10) :: (low nn1 j))) (.int 0) := (wl_set' (l := l1) (a := (a - 1)) (b := a) (suf := (low nn1 j)) (by omega) (nar_ch (Nat.mod_lt _ (by decide)))) ▸ A32
          have N32 := Fr.snoc X32 NL gn_o2
          have K32 := KL.wr W32 (Or.inl (List.mem_of_getElem? (i := 0) rfl))
          refine g_iloadN C X32 d25_85 86 rfl ?_
          refine g_bipush C X32 d25_86 88 (v := -9) rfl ?_
          refine g_icmp_ge C X32 d25_88 104 91 (fun hc88 => ?_) (fun hc88 => ?_)
          · refine g_iload C X32 d25_104 106 rfl ?_
            refine g_if_eq C X32 d25_106 118 109 (fun hc106 => absurd hc106 (by decide)) (fun hc106 => ?_)
            refine g_aloadN C X32 d25_109 110 rfl rfl ?_
            refine g_iinc C X32 d25_110 113 rfl (w := (Int32.ofNat (l1.length + ((a - 1) - 1)))) (pos_dec (by omega)) (ls' := #[iv (ng n), iv i1, rv o2, q3, q4, iv (Int32.ofNat (l1.length + ((a - 1) - 1))), iv 1]) rfl ?_
            refine g_iload C X32 d25_113 115 rfl ?_
            refine g_bipush C X32 d25_115 117 (v := 45) rfl ?_
            refine g_bastore C X32 (i := (l1.length + ((a - 1) - 1))) e32 f37 (pos_in (by omega) hc) (pos_nat (by omega) hc) (wl_lt (by omega)) d25_117 118 (fun T38 h38 X38 e38 W38 A38 => ?_)
            have f43 : Arv Z h38 o2 kd1 .byte (Int32.ofNat c1) (wl l1 ((a - 1) - 1) (45 :: (ch (n % 10) :: (low nn1 j)))) (.int 0) := (wl_set' (l := l1) (a := ((a - 1) - 1)) (b := (a - 1)) (suf := (ch (n % 10) :: (low nn1 j))) (by omega) nar45) ▸ A38
            have N38 := Fr.snoc X38 N32 gn_o2
            have K38 := K32.wr W38 (Or.inl (List.mem_of_getElem? (i := 0) rfl))
            have he := gc_end1 hN31 hn hj (Classical.byContradiction fun q => hc88 ((gc_ge9 h31).mpr q))
            have hz : ((a - 1) - 1) = 0 := by omega
            have f44 : Arv Z h38 o2 kd1 .byte (Int32.ofNat c1) ((l1 ++ decI x1).map Value.int) (.int 0) := by rw [← gc_fin hz (by rw [hdec, he, ← gc_low1 hn])]; exact f43
            refine g_iload C X38 d25_118 120 rfl ?_
            exact g_retI C X38 K d25_120 (by decide) (by decide) e38 ⟨(by rw [hz, Nat.add_zero]), N38, K38, f44⟩
          · have h9 := (gc_ge9 h31).mp hc88
            have he := gc_end2 hN31 hn hlt h9
            refine g_aloadN C X32 d25_91 92 rfl rfl ?_
            refine g_iinc C X32 d25_92 95 rfl (w := (Int32.ofNat (l1.length + ((a - 1) - 1)))) (pos_dec (by omega)) (ls' := #[iv (ng n), iv i1, rv o2, q3, q4, iv (Int32.ofNat (l1.length + ((a - 1) - 1))), iv 1]) rfl ?_
            refine g_iload C X32 d25_95 97 rfl ?_
            refine g_getS C X32 (w_246 hw) Via.refl e32 f34 d25_97 100 (fun T45 X45 e45 => ?_)
            refine g_iloadN C X45 d25_100 101 rfl ?_
            refine g_ineg C X45 d25_101 102 ?_
            refine g_baload C X45 e45 f36 (tab_in (ng_neg (Nat.lt_of_le_of_lt (Nat.le_of_lt hlt) (by decide))).symm hlt) (v := (.int (ch (n / 10)))) (tab_tens (ng_neg (Nat.lt_of_le_of_lt (Nat.le_of_lt hlt) (by decide))).symm hlt) d25_102 103 ?_
            refine g_bastore C X45 (i := (l1.length + ((a - 1) - 1))) e45 f37 (pos_in (by omega) hc) (pos_nat (by omega) hc) (wl_lt (by omega)) d25_103 104 (fun T46 h46 X46 e46 W46 A46 => ?_)
            have f51 : Arv Z h46 o2 kd1 .byte (Int32.ofNat c1) (wl l1 ((a - 1) - 1) (ch (n / 10) :: (ch (n % 10) :: (low nn1 j)))) (.int 0) := (wl_set' (l := l1) (a := ((a - 1) - 1)) (b := (a - 1)) (suf := (ch (n % 10) :: (low nn1 j))) (by omega) (nar_ch (d := n / 10) (by omega))) ▸ A46
            have N46 := Fr.snoc X46 N32 gn_o2
            have K46 := K32.wr W46 (Or.inl (List.mem_of_getElem? (i := 0) rfl))
            refine g_iload C X46 d25_104 106 rfl ?_
            refine g_if_eq C X46 d25_106 118 109 (fun hc106 => absurd hc106 (by decide)) (fun hc106 => ?_)
            refine g_aloadN C X46 d25_109 110 rfl rfl ?_
            refine g_iinc C X46 d25_110 113 rfl (w := (Int32.ofNat (l1.length + (((a - 1) - 1) - 1)))) (pos_dec (by omega)) (ls' := #[iv (ng n), iv i1, rv o2, q3, q4, iv (Int32.ofNat (l1.length + (((a - 1) - 1) - 1))), iv 1]) rfl ?_
            refine g_iload C X46 d25_113 115 rfl ?_
            refine g_bipush C X46 d25_115 117 (v := 45) rfl ?_
            refine g_bastore C X46 (i := (l1.length + (((a - 1) - 1) - 1))) e46 f51 (pos_in (by omega) hc) (pos_nat (by omega) hc) (wl_lt (by omega)) d25_117 118 (fun T52 h52 X52 e52 W52 A52 => ?_)
            have f57 : Arv Z h52 o2 kd1 .byte (Int32.ofNat c1) (wl l1 (((a - 1) - 1) - 1) (45 :: (ch (n / 10) :: (ch (n % 10) :: (low nn1 j))))) (.int 0) := (wl_set' (l := l1) (a := (((a - 1) - 1) - 1)) (b := ((a - 1) - 1)) (suf := (ch (n / 10) :: (ch (n % 10) :: (low nn1 j)))) (by omega) nar45) ▸ A52
            have N52 := Fr.snoc X52 N46 gn_o2
            have K52 := K46.wr W52 (Or.inl (List.mem_of_getElem? (i := 0) rfl))
            have hz : (((a - 1) - 1) - 1) = 0 := by omega
            have f58 : Arv Z h52 o2 kd1 .byte (Int32.ofNat c1) ((l1 ++ decI x1).map Value.int) (.int 0) := by rw [← gc_fin hz (by rw [hdec, he, ← gc_low2 hn hlt])]; exact f57
            refine g_iload C X52 d25_118 120 rfl ?_
            exact g_retI C X52 K d25_120 (by decide) (by decide) e52 ⟨(by rw [hz, Nat.add_zero]), N52, K52, f58⟩
        · have hge : ¬ n < 100 := fun q => hc25 ((gc_gt h31).mpr q)
          have hd := gc_two hN31 hn hge
          refine g_iloadN C XL d25_28 29 rfl ?_
          refine g_bipush C XL d25_29 31 (v := 100) rfl ?_
          refine g_idiv C XL d25_31 32 (by decide) ?_
          refine g_istoreN C XL d25_32 33 (w := ((ng n) / (100 : Int32))) rfl (ls' := #[iv (ng n), iv i1, rv o2, iv ((ng n) / (100 : Int32)), q4, iv (Int32.ofNat (l1.length + a)), iv 1]) (by rcases hq3 with rfl | ⟨z, rfl⟩ <;> rcases hq4 with rfl | ⟨z, rfl⟩ <;> rfl) ?_
          refine g_iloadN C XL d25_33 34 rfl ?_
          refine g_bipush C XL d25_34 36 (v := 100) rfl ?_
          refine g_imul C XL d25_36 37 ?_
          refine g_iloadN C XL d25_37 38 rfl ?_
          refine g_isub C XL d25_38 39 ?_
          refine g_istore C XL d25_39 41 (w := ((((ng n) / (100 : Int32)) * (100 : Int32)) - (ng n))) rfl (ls' := #[iv (ng n), iv i1, rv o2, iv ((ng n) / (100 : Int32)), iv ((((ng n) / (100 : Int32)) * (100 : Int32)) - (ng n)), iv (Int32.ofNat (l1.length + a)), iv 1]) (by rcases hq4 with rfl | ⟨z, rfl⟩ <;> rfl) ?_
          refine g_iloadN C XL d25_41 42 rfl ?_
          refine g_istoreN C XL d25_42 43 (w := ((ng n) / (100 : Int32))) rfl (ls' := #[iv ((ng n) / (100 : Int32)), iv i1, rv o2, iv ((ng n) / (100 : Int32)), iv ((((ng n) / (100 : Int32)) * (100 : Int32)) - (ng n)), iv (Int32.ofNat (l1.length + a)), iv 1]) rfl ?_
          refine g_aloadN C XL d25_43 44 rfl rfl ?_
          refine g_iinc C XL d25_44 47 rfl (w := (Int32.ofNat (l1.length + (a - 1)))) (pos_dec (by omega)) (ls' := #[iv ((ng n) / (100 : Int32)), iv i1, rv o2, iv ((ng n) / (100 : Int32)), iv ((((ng n) / (100 : Int32)) * (100 : Int32)) - (ng n)), iv (Int32.ofNat (l1.length + (a - 1))), iv 1]) rfl ?_
          refine g_iload C XL d25_47 49 rfl ?_
          refine g_getS C XL (w_149 hw) Via.refl eL S7 d25_49 52 (fun T59 X59 e59 => ?_)
          refine g_iload C X59 d25_52 54 rfl ?_
          refine g_baload C X59 e59 V7 (tab_in (show Int32.ofNat (n % 100) = _ from by rw [ng_div h31]; exact (ng_rem h31).symm) (Nat.mod_lt n (by decide))) (v := (.int (ch (n % 100 % 10)))) (tab_ones (show Int32.ofNat (n % 100) = _ from by rw [ng_div h31]; exact (ng_rem h31).symm) (Nat.mod_lt n (by decide))) d25_54 55 ?_
          refine g_bastore C X59 (i := (l1.length + (a - 1))) e59 V2 (pos_in (by omega) hc) (pos_nat (by omega) hc) (wl_lt (by omega)) d25_55 56 (fun T60 h60 X60 e60 W60 A60 => ?_)
          have f61 := S7.wr W60
          have f62 := S8.wr W60
          have f63 := V7.other W60 (Ne.symm ne_o2_o7)
          have f64 := V8.other W60 (Ne.symm ne_o2_o8)
          have f65 : Arv Z h60 o2 kd1 .byte (Int32.ofNat c1) (wl l1 (a - 1) (ch (n % 100 % 10) :: (low nn1 j))) (.int 0) := (wl_set' (l := l1) (a := (a - 1)) (b := a) (suf := (low nn1 j)) (by omega) (nar_ch (Nat.mod_lt _ (by decide)))) ▸ A60
          have N60 := Fr.snoc X60 NL gn_o2
          have Z60 := Nat.le_trans ZL (Nat.le_of_eq W60.size.symm)
          have K60 := KL.wr W60 (Or.inl (List.mem_of_getElem? (i := 0) rfl))
          refine g_aloadN C X60 d25_56 57 rfl rfl ?_
          refine g_iinc C X60 d25_57 60 rfl (w := (Int32.ofNat (l1.length + ((a - 1) - 1)))) (pos_dec (by omega)) (ls' := #[iv ((ng n) / (100 : Int32)), iv i1, rv o2, iv ((ng n) / (100 : Int32)), iv ((((ng n) / (100 : Int32)) * (100 : Int32)) - (ng n)), iv (Int32.ofNat (l1.length + ((a - 1) - 1))), iv 1]) rfl ?_
          refine g_iload C X60 d25_60 62 rfl ?_
          refine g_getS C X60 (w_246 hw) Via.refl e60 f62 d25_62 65 (fun T66 X66 e66 => ?_)
          refine g_iload C X66 d25_65 67 rfl ?_
          refine g_baload C X66 e66 f64 (tab_in (show Int32.ofNat (n % 100) = _ from by rw [ng_div h31]; exact (ng_rem h31).symm) (Nat.mod_lt n (by decide))) (v := (.int (ch (n % 100 / 10)))) (tab_tens (show Int32.ofNat (n % 100) = _ from by rw [ng_div h31]; exact (ng_rem h31).symm) (Nat.mod_lt n (by decide))) d25_67 68 ?_
          refine g_bastore C X66 (i := (l1.length + ((a - 1) - 1))) e66 f65 (pos_in (by omega) hc) (pos_nat (by omega) hc) (wl_lt (by omega)) d25_68 69 (fun T67 h67 X67 e67 W67 A67 => ?_)
          have f68 := f61.wr W67
          have f69 := f62.wr W67
          have f70 := f63.other W67 (Ne.symm ne_o2_o7)
          have f71 := f64.other W67 (Ne.symm ne_o2_o8)
          have f72 : Arv Z h67 o2 kd1 .byte (Int32.ofNat c1) (wl l1 ((a - 1) - 1) (ch (n % 100 / 10) :: (ch (n % 100 % 10) :: (low nn1 j)))) (.int 0) := (wl_set' (l := l1) (a := ((a - 1) - 1)) (b := (a - 1)) (suf := (ch (n % 100 % 10) :: (low nn1 j))) (by omega) (nar_ch (d := n % 100 / 10) (by omega))) ▸ A67
          have N67 := Fr.snoc X67 N60 gn_o2
          have Z67 := Nat.le_trans Z60 (Nat.le_of_eq W67.size.symm)
          have K67 := K60.wr W67 (Or.inl (List.mem_of_getElem? (i := 0) rfl))
          refine g_goto C X67 d25_69 22 ?_
          rw [ng_div h31]
          have fL : Arv Z h67 o2 kd1 .byte (Int32.ofNat c1) (wl l1 ((a - 1) - 1) (low nn1 (j + 2))) (.int 0) := by rw [← gc_low3 hn]; exact f72
          exact ih (n / 100) (by omega) (j + 2) ((a - 1) - 1) _ _ _ _ _ (by rw [← div_two, hn]) (Or.inr (by omega)) (by omega) (Or.inr ⟨_, rfl⟩) (Or.inr ⟨_, rfl⟩) X67 e67 N67 K67 Z67 f68 f69 f70 f71 fL
    have fP : Arv Z h0 o2 kd1 .byte (Int32.ofNat c1) (wl l1 (decI x1).length (low nn1 0)) (.int 0) := by rw [show low nn1 0 = [] from rfl, wl_pad]; exact F0.pad (pad_rep _ _ _)
    rw [gc_in hN hc4]
    have := loop nn1 0 (decI x1).length uu uu _ _ _ (by simp) (Or.inl rfl) (by omega) (Or.inl rfl) (Or.inl rfl) X0 e0 N0 K00 Z0 F1 F2 F3 F4 fP
    rw [hi] at this
    exact this
theorem ef_24r (m : MethodId) (a1 : Addr) : entryFrame m #[(.ref a1)] 1 = mkF m 0 #[rv a1] [] := by first | (simp [entryFrame, mkF, argsToLocals, Value.category, iv, rv, jv, nv, uu, sd]; done) | rfl
theorem d24_0 : decode jdk_68_method_68_code 0 = .ok (.getstatic 18, 3) := by decide +kernel
theorem d24_3 : decode jdk_68_method_68_code 3 = .ok (.ifCond .eq 14, 3) := by decide +kernel
theorem d24_6 : decode jdk_68_method_68_code 6 = .ok (.aload_n 0, 1) := by decide +kernel
theorem d24_7 : decode jdk_68_method_68_code 7 = .ok (.getfield 22, 3) := by decide +kernel
theorem d24_10 : decode jdk_68_method_68_code 10 = .ok (.ifCond .ne 7, 3) := by decide +kernel
theorem d24_13 : decode jdk_68_method_68_code 13 = .ok (.iconst 1, 1) := by decide +kernel
theorem d24_14 : decode jdk_68_method_68_code 14 = .ok (.goto 4, 3) := by decide +kernel
theorem d24_18 : decode jdk_68_method_68_code 18 = .ok (.ireturn, 1) := by decide +kernel
abbrev y24 : MethodName := (⟨"java/lang/AbstractStringBuilder", "isLatin1", "()Z"⟩ : MethodName)
theorem rm24_b {o1 : Addr} {cs1 : Int32} (hw : OwnW a0 Z) (Z0 : n0 ≤ h0.size) (F0 : Fld Z h0 o1 "java/lang/AbstractStringBuilder" "coder" "B" (.int 0)) (F1 : OSc Z h0 cs1) (hcs : ¬ cs1 = (0 : Int32)) : OwnMF l Z y24 jdk_68_method_68_code 1 (some .boolean) ws ⟨0, 0, 0, 0⟩ #[(.ref o1)] h0 (OwnQ (some (.int 1)) h0 n0) := by
  refine bo (plainFor_of_name pn_12) ?_
  intro p e s m below meth c T0 G C hnm hnamed X0 e0 K
  have N0 := Fr.nil n0
  refine Goes.to (congrArg T0.setTop (ef_24r m o1)) ?_
  refine g_getS C X0 (w_75 hw) Via.refl e0 F1 d24_0 3 (fun T1 X1 e1 => ?_)
  refine g_if_eq C X1 d24_3 17 6 (fun hc3 => absurd hc3 hcs) (fun hc3 => ?_)
  refine g_aloadN C X1 d24_6 7 rfl rfl ?_
  refine g_getF C X1 (w_78 hw) Via.refl e1 F0 d24_7 10 (fun T2 X2 e2 => ?_)
  refine g_if_ne C X2 d24_10 17 13 (fun hc10 => absurd hc10 (by decide)) (fun hc10 => ?_)
  refine g_iconst C X2 d24_13 14 (v := 1) rfl ?_
  refine g_goto C X2 d24_14 18 ?_
  exact g_retN C X2 K (by simp) d24_18 (by decide) (by decide) e2 ⟨rfl, N0, rfl⟩
theorem ef_22ri (m : MethodId) (a1 : Addr) (a2 : Int32) : entryFrame m #[(.ref a1), (.int a2)] 4 = mkF m 0 #[rv a1, iv a2, uu, uu] [] := by first | (simp [entryFrame, mkF, argsToLocals, Value.category, iv, rv, jv, nv, uu, sd]; done) | rfl
theorem d22_0 : decode jdk_68_method_32_code 0 = .ok (.aload_n 0, 1) := by decide +kernel
theorem d22_1 : decode jdk_68_method_32_code 1 = .ok (.getfield 79, 3) := by decide +kernel
theorem d22_4 : decode jdk_68_method_32_code 4 = .ok (.istore_n 2, 1) := by decide +kernel
theorem d22_5 : decode jdk_68_method_32_code 5 = .ok (.iload_n 2, 1) := by decide +kernel
theorem d22_6 : decode jdk_68_method_32_code 6 = .ok (.iload_n 1, 1) := by decide +kernel
theorem d22_7 : decode jdk_68_method_32_code 7 = .ok (.invokestatic 245, 3) := by decide +kernel
theorem w_140 (hw : OwnW a0 Z) : Cond.before (.code ⟨"java/lang/Integer", "stringSize", "(I)I"⟩ jdk_33_method_13_code (4 : Nat) (Option.some Jvm.ClassFile.FieldType.int)) a0 Z = true := wA hw 140 rfl
theorem w_139 (hw : OwnW a0 Z) : Cond.before (.initialized "java/lang/Integer") a0 Z = true := wA hw 139 rfl
theorem w_137 (hw : OwnW a0 Z) : Cond.before (.methodLink "java/lang/AbstractStringBuilder" (245 : Nat) ⟨"java/lang/Integer", "stringSize", "(I)I"⟩) a0 Z = true := wA hw 137 rfl
theorem w_138 (hw : OwnW a0 Z) : Cond.before (.static ⟨"java/lang/Integer", "stringSize", "(I)I"⟩) a0 Z = true := wA hw 138 rfl
theorem b_8 (hw : OwnW a0 Z) : CallS "java/lang/AbstractStringBuilder" 245 (⟨"java/lang/Integer", "stringSize", "(I)I"⟩ : MethodName) jdk_33_method_13_code (4 : Nat) (Option.some Jvm.ClassFile.FieldType.int) a0 Z := ⟨(w_137 hw), (w_138 hw), (w_139 hw), (w_140 hw)⟩
theorem d22_10 : decode jdk_68_method_32_code 10 = .ok (.iadd, 1) := by decide +kernel
theorem d22_11 : decode jdk_68_method_32_code 11 = .ok (.istore_n 3, 1) := by decide +kernel
theorem d22_12 : decode jdk_68_method_32_code 12 = .ok (.aload_n 0, 1) := by decide +kernel
theorem d22_13 : decode jdk_68_method_32_code 13 = .ok (.iload_n 3, 1) := by decide +kernel
theorem d22_14 : decode jdk_68_method_32_code 14 = .ok (.invokevirtual 100, 3) := by decide +kernel
theorem d22_17 : decode jdk_68_method_32_code 17 = .ok (.aload_n 0, 1) := by decide +kernel
theorem d22_18 : decode jdk_68_method_32_code 18 = .ok (.invokevirtual 83, 3) := by decide +kernel
theorem w_145 (hw : OwnW a0 Z) : Cond.before (.code ⟨"java/lang/AbstractStringBuilder", "isLatin1", "()Z"⟩ jdk_68_method_68_code (1 : Nat) (Option.some Jvm.ClassFile.FieldType.boolean)) a0 Z = true := wA hw 145 rfl
theorem w_141 (hw : OwnW a0 Z) : Cond.before (.methodLink "java/lang/AbstractStringBuilder" (83 : Nat) ⟨"java/lang/AbstractStringBuilder", "isLatin1", "()Z"⟩) a0 Z = true := wA hw 141 rfl
theorem pd_12 : parseMethodDescriptor "()Z" = some ⟨[], some .boolean⟩ := by decide +kernel
theorem w_142 (hw : OwnW a0 Z) : Cond.before (.declares ⟨"java/lang/AbstractStringBuilder", "isLatin1", "()Z"⟩) a0 Z = true := wA hw 142 rfl
theorem w_144 (hw : OwnW a0 Z) : Cond.before (.selects "java/lang/StringBuilder" ⟨"java/lang/AbstractStringBuilder", "isLatin1", "()Z"⟩ ⟨"java/lang/AbstractStringBuilder", "isLatin1", "()Z"⟩) a0 Z = true := wA hw 144 rfl
theorem w_143 (hw : OwnW a0 Z) : Cond.before (.instanceMethod ⟨"java/lang/AbstractStringBuilder", "isLatin1", "()Z"⟩) a0 Z = true := wA hw 143 rfl
theorem b_9 (hw : OwnW a0 Z) : CallV "java/lang/AbstractStringBuilder" 83 (⟨"java/lang/AbstractStringBuilder", "isLatin1", "()Z"⟩ : MethodName) "java/lang/StringBuilder" jdk_68_method_68_code (1 : Nat) (Option.some Jvm.ClassFile.FieldType.boolean) a0 Z := ⟨(w_141 hw), (w_142 hw), (w_144 hw), (w_143 hw), (w_145 hw), (w_72 hw)⟩
theorem d22_21 : decode jdk_68_method_32_code 21 = .ok (.ifCond .eq 16, 3) := by decide +kernel
theorem d22_24 : decode jdk_68_method_32_code 24 = .ok (.iload_n 1, 1) := by decide +kernel
theorem d22_25 : decode jdk_68_method_32_code 25 = .ok (.iload_n 3, 1) := by decide +kernel
theorem d22_26 : decode jdk_68_method_32_code 26 = .ok (.aload_n 0, 1) := by decide +kernel
theorem d22_27 : decode jdk_68_method_32_code 27 = .ok (.getfield 15, 3) := by decide +kernel
theorem d22_30 : decode jdk_68_method_32_code 30 = .ok (.invokestatic 248, 3) := by decide +kernel
theorem w_148 (hw : OwnW a0 Z) : Cond.before (.code ⟨"java/lang/Integer", "getChars", "(II[B)I"⟩ jdk_33_method_12_code (7 : Nat) (Option.some Jvm.ClassFile.FieldType.int)) a0 Z = true := wA hw 148 rfl
theorem w_146 (hw : OwnW a0 Z) : Cond.before (.methodLink "java/lang/AbstractStringBuilder" (248 : Nat) ⟨"java/lang/Integer", "getChars", "(II[B)I"⟩) a0 Z = true := wA hw 146 rfl
theorem pd_13 : parseMethodDescriptor "(II[B)I" = some ⟨[.int, .int, (.array .byte)], some .int⟩ := by decide +kernel
theorem w_147 (hw : OwnW a0 Z) : Cond.before (.static ⟨"java/lang/Integer", "getChars", "(II[B)I"⟩) a0 Z = true := wA hw 147 rfl
theorem d22_33 : decode jdk_68_method_32_code 33 = .ok (.pop, 1) := by decide +kernel
theorem d22_34 : decode jdk_68_method_32_code 34 = .ok (.goto 14, 3) := by decide +kernel
theorem d22_48 : decode jdk_68_method_32_code 48 = .ok (.aload_n 0, 1) := by decide +kernel
theorem d22_49 : decode jdk_68_method_32_code 49 = .ok (.iload_n 3, 1) := by decide +kernel
theorem d22_50 : decode jdk_68_method_32_code 50 = .ok (.putfield 79, 3) := by decide +kernel
theorem d22_53 : decode jdk_68_method_32_code 53 = .ok (.aload_n 0, 1) := by decide +kernel
theorem d22_54 : decode jdk_68_method_32_code 54 = .ok (.areturn, 1) := by decide +kernel
def Q22 (Z : State) (o1 : Addr) (x1 : Int32) (o2 : Addr) (kd1 : ClassId) (c1 : Nat) (l1 : List Int32) (o7 : Addr) (o8 : Addr) (kd7 : ClassId) (kd8 : ClassId) (cs1 : Int32) (h0 : Heap) (n0 : Nat) (v : Option Value) (h : Heap) (L : List Loc) : Prop := ∃ (o3 : Addr) (kd3 : ClassId) (c3 : Nat), v = some (.ref o1) ∧ Fr n0 L ∧ (o3 = o2 ∨ h0.size ≤ o3) ∧ Keep h0 h [o1, o2] ∧ Fld Z h o1 "java/lang/AbstractStringBuilder" "value" "[B" (.ref o3) ∧ Fld Z h o1 "java/lang/AbstractStringBuilder" "coder" "B" (.int 0) ∧ Fld Z h o1 "java/lang/AbstractStringBuilder" "count" "I" (.int (Int32.ofNat (l1 ++ decI x1).length)) ∧ Arv Z h o3 kd3 .byte (Int32.ofNat c3) ((l1 ++ decI x1).map Value.int) (.int 0) ∧ Exa Z h o3 "[B" ∧ c3 ≤ 90 ∧ (l1 ++ decI x1).length ≤ c3
abbrev y22 : MethodName := (⟨"java/lang/AbstractStringBuilder", "append", "(I)Ljava/lang/AbstractStringBuilder;"⟩ : MethodName)
theorem rm22 {o1 o2 o7 o8 : Addr} {x1 cs1 : Int32} {kd1 kd7 kd8 : ClassId} {c1 : Nat} {l1 : List Int32} (hw : OwnW a0 Z) (Z0 : n0 ≤ h0.size) (F0 : Exa Z h0 o1 "java/lang/StringBuilder") (F1 : Fld Z h0 o1 "java/lang/AbstractStringBuilder" "value" "[B" (.ref o2)) (F2 : Fld Z h0 o1 "java/lang/AbstractStringBuilder" "coder" "B" (.int 0)) (F3 : Fld Z h0 o1 "java/lang/AbstractStringBuilder" "count" "I" (.int (Int32.ofNat l1.length))) (F4 : Arv Z h0 o2 kd1 .byte (Int32.ofNat c1) (l1.map Value.int) (.int 0)) (F5 : Exa Z h0 o2 "[B") (F6 : Sta Z h0 "java/lang/Integer" "DigitOnes" "[B" (.ref o7)) (F7 : Sta Z h0 "java/lang/Integer" "DigitTens" "[B" (.ref o8)) (F8 : Arv Z h0 o7 kd7 .byte (Int32.ofNat 100) (onesL.map Value.int) (.int 0)) (F9 : Arv Z h0 o8 kd8 .byte (Int32.ofNat 100) (tensL.map Value.int) (.int 0)) (F10 : OSc Z h0 cs1) (gn_o1 : n0 ≤ o1) (gn_o2 : n0 ≤ o2) (hcs : ¬ cs1 = (0 : Int32)) (hc : c1 ≤ 90) (hll : l1.length ≤ c1) (hm : l1.length + (decI x1).length ≤ 45) (ne_o1_o2 : o1 ≠ o2) (ne_o1_o7 : o1 ≠ o7) (ne_o1_o8 : o1 ≠ o8) (ne_o2_o7 : o2 ≠ o7) (ne_o2_o8 : o2 ≠ o8) : OwnMF l Z y22 jdk_68_method_32_code 4 (some (.object "java/lang/AbstractStringBuilder")) ws ⟨4, 1, 90, 62⟩ #[(.ref o1), (.int x1)] h0 (Q22 Z o1 x1 o2 kd1 c1 l1 o7 o8 kd7 kd8 cs1 h0 n0) := by
  refine bo (plainFor_of_name pn_12) ?_
  intro p e s m below meth c T0 G C hnm hnamed X0 e0 K
  have N0 := Fr.nil n0
  refine Goes.to (congrArg T0.setTop (ef_22ri m o1 x1)) ?_
  have K00 := Keep.refl h0 [o1, o2]
  refine g_aloadN C X0 d22_0 1 rfl rfl ?_
  refine g_getF C X0 (w_100 hw) Via.refl e0 F3 d22_1 4 (fun T1 X1 e1 => ?_)
  refine g_istoreN C X1 d22_4 5 (w := (Int32.ofNat l1.length)) rfl (ls' := #[rv o1, iv x1, iv (Int32.ofNat l1.length), uu]) rfl ?_
  refine g_iloadN C X1 d22_5 6 rfl ?_
  refine g_iloadN C X1 d22_6 7 rfl ?_
  refine g_callS0 C X1 (b_8 hw) d22_7 [(.int x1)] [(.int (Int32.ofNat l1.length))] 1 (rm23 hw Z0) N0 pd_5 e1 10 (fun T2 _ X2 N2 e2 => ?_)
  refine g_iadd C X2 d22_10 11 ?_
  refine g_istoreN C X2 d22_11 12 (w := ((Int32.ofNat l1.length) + (fSize x1))) rfl (ls' := #[rv o1, iv x1, iv (Int32.ofNat l1.length), iv ((Int32.ofNat l1.length) + (fSize x1))]) rfl ?_
  refine g_aloadN C X2 d22_12 13 rfl rfl ?_
  refine g_iloadN C X2 d22_13 14 rfl ?_
  refine g_callV C X2 (w_102 hw) (declares_of (w_103 hw) (w_106 hw)) (notFace_of_selects (args := #[]) (mvT C.2.1 (w_105 hw))) (w_105 hw) (w_103 hw) (w_106 hw) (w_72 hw) F0 d22_14 [(.int ((Int32.ofNat l1.length) + (fSize x1)))] [] 0 (rm17 hw Z0 F0 F1 F2 F3 F4 F5 gn_o1 (show Int32.ofNat (l1.length + (decI x1).length) = _ from by rw [size_eq, i_add]) hm hc hll ne_o1_o2) pd_1 e2 17 (fun u3 T3 L3 X3 hQ3 => ?_)
  obtain ⟨o33, kd33, c33, rfl, Nq3, szo33, Kq3, q3_0, q3_1, q3_2, q3_3, q3_4, p3_mc, p3_c90⟩ := hQ3
  have N3 := Fr.app N2 Nq3
  have n4 : o1 ≠ o33 := alt_ne szo33 ne_o1_o2 F0.lt
  have n5 : o7 ≠ o33 := alt_ne szo33 (Ne.symm ne_o2_o7) F8.lt
  have n6 : o8 ≠ o33 := alt_ne szo33 (Ne.symm ne_o2_o8) F9.lt
  have f7 := F0.keep Kq3
  have f8 := Sta.keepN F6 Kq3 (allS (Exa.ns F0) all0)
  have f9 := Sta.keepN F7 Kq3 (allS (Exa.ns F0) all0)
  have f10 := F8.keep Kq3 (ninS (Ne.symm ne_o1_o7) nin0)
  have f11 := F9.keep Kq3 (ninS (Ne.symm ne_o1_o8) nin0)
  have f12 := Sta.keepN F10 Kq3 (allS (Exa.ns F0) all0)
  have gn_o33 : n0 ≤ o33 := alt_born szo33 gn_o2 Z0
  have Z3 := Nat.le_trans Z0 Kq3.1
  have al_o33 := alt_lift szo33 K00.1
  have K3 := K00.trans Kq3 (allS (Or.inl (List.mem_of_getElem? (i := 0) rfl)) all0)
  refine ret0 ?_
  refine g_aloadN C X3 d22_17 18 rfl rfl ?_
  refine g_callV0 C X3 (b_9 hw) f7 d22_18 [] [] 0 (rm24_b hw Z3 q3_1 f12 hcs) N3 pd_12 rfl 21 (fun T13 _ X13 N13 e13 => ?_)
  refine g_if_eq C X13 d22_21 37 24 (fun hc21 => absurd hc21 (by decide)) (fun hc21 => ?_)
  refine g_iloadN C X13 d22_24 25 rfl ?_
  refine g_iloadN C X13 d22_25 26 rfl ?_
  refine g_aloadN C X13 d22_26 27 rfl rfl ?_
  refine g_getF C X13 (w_76 hw) Via.refl e13 q3_0 d22_27 30 (fun T14 X14 e14 => ?_)
  refine g_callS C X14 (w_146 hw) (w_147 hw) (w_139 hw) (w_148 hw) d22_30 [(.int x1), (.int ((Int32.ofNat l1.length) + (fSize x1))), (.ref o33)] [] 0 (rm25 hw Z3 q3_3 f8 f9 f10 f11 gn_o33 rfl (show Int32.ofNat (l1.length + (decI x1).length) = _ from by rw [size_eq, i_add]) p3_mc p3_c90 (Ne.symm n5) (Ne.symm n6)) pd_13 e14 33 (fun u15 T15 L15 X15 hQ15 => ?_)
  obtain ⟨rfl, Nq15, Kq15, q15_0⟩ := hQ15
  have N15 := Fr.app N13 Nq15
  have f16 := f7.keep Kq15
  have f22 := q3_0.keep Kq15 (ninS n4 nin0)
  have f23 := q3_1.keep Kq15 (ninS n4 nin0)
  have f24 := q3_2.keep Kq15 (ninS n4 nin0)
  have f25 := q3_4.keep Kq15
  have K15 := K3.trans Kq15 (allS (alt_in al_o33 (List.mem_of_getElem? (i := 1) rfl)) all0)
  refine ret1 ?_
  refine g_pop C X15 d22_33 34 rfl ?_
  refine g_goto C X15 d22_34 48 ?_
  refine g_aloadN C X15 d22_48 49 rfl rfl ?_
  refine g_iloadN C X15 d22_49 50 rfl ?_
  refine g_putF C X15 (w_100 hw) Via.refl rfl f24 f16 (Or.inl (w_101 hw)) (w_63 hw) (ty := .int) (by decide) rfl rfl d22_50 53 (fun T26 h26 X26 e26 W26 => ?_)
  have f33 := f22.other W26 (Or.inr (slot_ne (Or.inl (w_77 hw)) (Or.inl (w_101 hw)) (by decide) (t := (.array .byte)) (t' := .int) (by decide) (by decide)))
  have f34 := f23.other W26 (Or.inr (slot_ne (Or.inl (w_79 hw)) (Or.inl (w_101 hw)) (by decide) (t := .byte) (t' := .int) (by decide) (by decide)))
  have f35 := f24.same W26
  have f36 := f25.wr W26
  have f37 := q15_0.other W26 (Ne.symm n4)
  have N26 := Fr.snoc X26 N15 gn_o1
  have K26 := K15.wr W26 (Or.inl (List.mem_of_getElem? (i := 0) rfl))
  have f38 : Fld Z h26 o1 "java/lang/AbstractStringBuilder" "count" "I" (.int (Int32.ofNat (l1 ++ decI x1).length)) := by rw [app_len, ← size_eq]; exact f35
  refine g_aloadN C X26 d22_53 54 rfl rfl ?_
  exact g_retA C X26 K rfl rfl rfl d22_54 (by decide) (by decide) e26 ⟨o33, kd33, c33, rfl, N26, al_o33, K26, f33, f34, f38, f37, f36, p3_c90, (by rw [List.length_append]; exact p3_mc)⟩
theorem ef_21ri (m : MethodId) (a1 : Addr) (a2 : Int32) : entryFrame m #[(.ref a1), (.int a2)] 2 = mkF m 0 #[rv a1, iv a2] [] := by first | (simp [entryFrame, mkF, argsToLocals, Value.category, iv, rv, jv, nv, uu, sd]; done) | rfl
theorem d21_0 : decode jdk_67_method_15_code 0 = .ok (.aload_n 0, 1) := by decide +kernel
theorem d21_1 : decode jdk_67_method_15_code 1 = .ok (.iload_n 1, 1) := by decide +kernel
theorem d21_2 : decode jdk_67_method_15_code 2 = .ok (.invokespecial 53, 3) := by decide +kernel
theorem w_136 (hw : OwnW a0 Z) : Cond.before (.code ⟨"java/lang/AbstractStringBuilder", "append", "(I)Ljava/lang/AbstractStringBuilder;"⟩ jdk_68_method_32_code (4 : Nat) (Option.some (Jvm.ClassFile.FieldType.object "java/lang/AbstractStringBuilder"))) a0 Z = true := wA hw 136 rfl
theorem w_133 (hw : OwnW a0 Z) : Cond.before (.methodLink "java/lang/StringBuilder" (53 : Nat) ⟨"java/lang/AbstractStringBuilder", "append", "(I)Ljava/lang/AbstractStringBuilder;"⟩) a0 Z = true := wA hw 133 rfl
theorem pd_14 : parseMethodDescriptor "(I)Ljava/lang/AbstractStringBuilder;" = some ⟨[.int], some (.object "java/lang/AbstractStringBuilder")⟩ := by decide +kernel
theorem w_135 (hw : OwnW a0 Z) : Cond.before (.declares ⟨"java/lang/AbstractStringBuilder", "append", "(I)Ljava/lang/AbstractStringBuilder;"⟩) a0 Z = true := wA hw 135 rfl
theorem w_134 (hw : OwnW a0 Z) : Cond.before (.instanceMethod ⟨"java/lang/AbstractStringBuilder", "append", "(I)Ljava/lang/AbstractStringBuilder;"⟩) a0 Z = true := wA hw 134 rfl
theorem d21_5 : decode jdk_67_method_15_code 5 = .ok (.pop, 1) := by decide +kernel
theorem d21_6 : decode jdk_67_method_15_code 6 = .ok (.aload_n 0, 1) := by decide +kernel
theorem d21_7 : decode jdk_67_method_15_code 7 = .ok (.areturn, 1) := by decide +kernel
def Q21 (Z : State) (o1 : Addr) (x1 : Int32) (o2 : Addr) (kd1 : ClassId) (c1 : Nat) (l1 : List Int32) (o7 : Addr) (o8 : Addr) (kd7 : ClassId) (kd8 : ClassId) (cs1 : Int32) (h0 : Heap) (n0 : Nat) (v : Option Value) (h : Heap) (L : List Loc) : Prop := ∃ (o3 : Addr) (kd3 : ClassId) (c3 : Nat), v = some (.ref o1) ∧ Fr n0 L ∧ (o3 = o2 ∨ h0.size ≤ o3) ∧ Keep h0 h [o1, o2] ∧ Fld Z h o1 "java/lang/AbstractStringBuilder" "value" "[B" (.ref o3) ∧ Fld Z h o1 "java/lang/AbstractStringBuilder" "coder" "B" (.int 0) ∧ Fld Z h o1 "java/lang/AbstractStringBuilder" "count" "I" (.int (Int32.ofNat (l1 ++ decI x1).length)) ∧ Arv Z h o3 kd3 .byte (Int32.ofNat c3) ((l1 ++ decI x1).map Value.int) (.int 0) ∧ Exa Z h o3 "[B" ∧ c3 ≤ 90 ∧ (l1 ++ decI x1).length ≤ c3
abbrev y21 : MethodName := (⟨"java/lang/StringBuilder", "append", "(I)Ljava/lang/StringBuilder;"⟩ : MethodName)
theorem rm21 {o1 o2 o7 o8 : Addr} {x1 cs1 : Int32} {kd1 kd7 kd8 : ClassId} {c1 : Nat} {l1 : List Int32} (hw : OwnW a0 Z) (Z0 : n0 ≤ h0.size) (F0 : Exa Z h0 o1 "java/lang/StringBuilder") (F1 : Fld Z h0 o1 "java/lang/AbstractStringBuilder" "value" "[B" (.ref o2)) (F2 : Fld Z h0 o1 "java/lang/AbstractStringBuilder" "coder" "B" (.int 0)) (F3 : Fld Z h0 o1 "java/lang/AbstractStringBuilder" "count" "I" (.int (Int32.ofNat l1.length))) (F4 : Arv Z h0 o2 kd1 .byte (Int32.ofNat c1) (l1.map Value.int) (.int 0)) (F5 : Exa Z h0 o2 "[B") (F6 : Sta Z h0 "java/lang/Integer" "DigitOnes" "[B" (.ref o7)) (F7 : Sta Z h0 "java/lang/Integer" "DigitTens" "[B" (.ref o8)) (F8 : Arv Z h0 o7 kd7 .byte (Int32.ofNat 100) (onesL.map Value.int) (.int 0)) (F9 : Arv Z h0 o8 kd8 .byte (Int32.ofNat 100) (tensL.map Value.int) (.int 0)) (F10 : OSc Z h0 cs1) (gn_o1 : n0 ≤ o1) (gn_o2 : n0 ≤ o2) (hcs : ¬ cs1 = (0 : Int32)) (hc : c1 ≤ 90) (hll : l1.length ≤ c1) (hm : l1.length + (decI x1).length ≤ 45) (ne_o1_o2 : o1 ≠ o2) (ne_o1_o7 : o1 ≠ o7) (ne_o1_o8 : o1 ≠ o8) (ne_o2_o7 : o2 ≠ o7) (ne_o2_o8 : o2 ≠ o8) : OwnMF l Z y21 jdk_67_method_15_code 2 (some (.object "java/lang/StringBuilder")) ws ⟨5, 1, 90, 77⟩ #[(.ref o1), (.int x1)] h0 (Q21 Z o1 x1 o2 kd1 c1 l1 o7 o8 kd7 kd8 cs1 h0 n0) := by
  refine bo (plainFor_of_name pn_11) ?_
  intro p e s m below meth c T0 G C hnm hnamed X0 e0 K
  have N0 := Fr.nil n0
  refine Goes.to (congrArg T0.setTop (ef_21ri m o1 x1)) ?_
  have K00 := Keep.refl h0 [o1, o2]
  refine g_aloadN C X0 d21_0 1 rfl rfl ?_
  refine g_iloadN C X0 d21_1 2 rfl ?_
  refine g_callU C X0 (w_133 hw) (w_135 hw) (w_134 hw) (w_87 hw) (w_105 hw) rfl (w_136 hw) (w_72 hw) (by decide) F0 d21_2 [(.int x1)] [] 0 (rm22 hw Z0 F0 F1 F2 F3 F4 F5 F6 F7 F8 F9 F10 gn_o1 gn_o2 hcs hc hll hm ne_o1_o2 ne_o1_o7 ne_o1_o8 ne_o2_o7 ne_o2_o8) pd_14 e0 5 (fun u1 T1 L1 X1 hQ1 => ?_)
  obtain ⟨o31, kd31, c31, rfl, Nq1, szo31, Kq1, q1_0, q1_1, q1_2, q1_3, q1_4, p1_c90, p1_ll⟩ := hQ1
  have N1 := Fr.app N0 Nq1
  have al_o31 := alt_lift szo31 K00.1
  have K1 := K00.trans Kq1 (allS (Or.inl (List.mem_of_getElem? (i := 0) rfl)) (allS (Or.inl (List.mem_of_getElem? (i := 1) rfl)) all0))
  refine ret1 ?_
  refine g_pop C X1 d21_5 6 rfl ?_
  refine g_aloadN C X1 d21_6 7 rfl rfl ?_
  exact g_retA C X1 K rfl rfl rfl d21_7 (by decide) (by decide) rfl ⟨o31, kd31, c31, rfl, N1, al_o31, K1, q1_0, q1_1, q1_2, q1_3, q1_4, p1_c90, p1_ll⟩
theorem cr_n0 {l : List Int32} {i : Int32} (hi : Int32.ofNat l.length = i) (h : l.length ≤ 90) : ¬ i < 0 := hi ▸ i_nn _ (by omega)
theorem i_sub0 (i : Int32) : i - 0 = i := Int32.sub_zero i
theorem cr_n {l : List Int32} {i : Int32} (hi : Int32.ofNat l.length = i) (h : l.length ≤ 90) : ¬ (i - 0) < 0 := by rw [i_sub0]; exact cr_n0 hi h
theorem cr_cap {l : List Int32} {i : Int32} (hi : Int32.ofNat l.length = i) (h : l.length ≤ 90) : (i - 0).toNatClampNeg ≤ 90 := by rw [i_sub0, ← hi, i_toNat _ (by omega)]; exact h
theorem cr_eq {l : List Int32} {i : Int32} (hi : Int32.ofNat l.length = i) : (i - 0) = Int32.ofNat l.length := by rw [i_sub0, hi]
theorem cr_min {l : List Int32} {i : Int32} {c : Nat} (hi : Int32.ofNat l.length = i) (hl : l.length ≤ c) (hc : c ≤ 90) : fMin (Int32.ofNat c - 0) (i - 0) = Int32.ofNat l.length := by
  rw [i_sub0, i_sub0, ← hi, min_eq _ _ (by omega) (by omega), Nat.min_eq_right hl]
theorem cr_t {l : List Int32} {i : Int32} {c : Nat} (hi : Int32.ofNat l.length = i) (hl : l.length ≤ c) (hc : c ≤ 90) : (fMin (Int32.ofNat c - 0) (i - 0)).toNatClampNeg = l.length := by rw [cr_min hi hl hc, i_toNat _ (by omega)]
theorem cr_h3 {l : List Int32} {i : Int32} {c : Nat} (hi : Int32.ofNat l.length = i) (hl : l.length ≤ c) (hc : c ≤ 90) : ¬ fMin (Int32.ofNat c - 0) (i - 0) < 0 := by rw [cr_min hi hl hc]; exact i_nn _ (by omega)
theorem cr_h4 {l : List Int32} {i : Int32} {c : Nat} (hi : Int32.ofNat l.length = i) (hl : l.length ≤ c) (hc : c ≤ 90) : (0 : Int32).toNatClampNeg + (fMin (Int32.ofNat c - 0) (i - 0)).toNatClampNeg ≤ (Int32.ofNat c).toNatClampNeg := by rw [cr_t hi hl hc, i_toNat c (by omega)]; show 0 + _ ≤ _; omega
theorem cr_h5 {l : List Int32} {i : Int32} {c : Nat} (hi : Int32.ofNat l.length = i) (hl : l.length ≤ c) (hc : c ≤ 90) : (0 : Int32).toNatClampNeg + (fMin (Int32.ofNat c - 0) (i - 0)).toNatClampNeg ≤ (Int32.ofNat l.length).toNatClampNeg := by rw [cr_t hi hl hc, i_toNat _ (by omega)]; show 0 + _ ≤ _; omega
theorem cr_hl {l : List Int32} {i : Int32} {c : Nat} (hi : Int32.ofNat l.length = i) (hl : l.length ≤ c) (hc : c ≤ 90) : (0 : Int32).toNatClampNeg + (fMin (Int32.ofNat c - 0) (i - 0)).toNatClampNeg ≤ ([] ++ List.replicate l.length (Value.int 0)).length := by rw [cr_t hi hl hc]; show 0 + _ ≤ _; simp
theorem cr_ll {l : List Int32} {i : Int32} {c : Nat} (hi : Int32.ofNat l.length = i) (hl : l.length ≤ c) (hc : c ≤ 90) : l.length ≤ (fMin (Int32.ofNat c - 0) (i - 0)).toNatClampNeg := by rw [cr_t hi hl hc]; exact Nat.le_refl _
theorem cr_c {c : Nat} (hc : c ≤ 90) : (Int32.ofNat c).toNatClampNeg ≤ 90 := by rw [i_toNat c (by omega)]; exact hc

theorem ef_34ii (m : MethodId) (a1 : Int32) (a2 : Int32) : entryFrame m #[(.int a1), (.int a2)] 2 = mkF m 0 #[iv a1, iv a2] [] := by first | (simp [entryFrame, mkF, argsToLocals, Value.category, iv, rv, jv, nv, uu, sd]; done) | rfl
theorem d34_0 : decode jdk_65_method_131_code 0 = .ok (.iload_n 1, 1) := by decide +kernel
theorem d34_1 : decode jdk_65_method_131_code 1 = .ok (.iload_n 0, 1) := by decide +kernel
theorem d34_2 : decode jdk_65_method_131_code 2 = .ok (.if_icmp .ge 35, 3) := by decide +kernel
theorem d34_37 : decode jdk_65_method_131_code 37 = .ok (.return_, 1) := by decide +kernel
abbrev y34 : MethodName := (⟨"java/util/Arrays", "checkLength", "(II)V"⟩ : MethodName)
theorem rm34_s {i1 : Int32} (hw : OwnW a0 Z) (Z0 : n0 ≤ h0.size) (h0i : ¬ i1 < (0 : Int32)) : OwnMF l Z y34 jdk_65_method_131_code 2 none ws ⟨0, 0, 0, 0⟩ #[(.int 0), (.int i1)] h0 (OwnQ none h0 n0) := by
  refine bo (plainFor_of_name pn_32) ?_
  intro p e s m below meth c T0 G C hnm hnamed X0 e0 K
  have N0 := Fr.nil n0
  refine Goes.to (congrArg T0.setTop (ef_34ii m (0 : Int32) i1)) ?_
  refine g_iloadN C X0 d34_0 1 rfl ?_
  refine g_iloadN C X0 d34_1 2 rfl ?_
  refine g_icmp_ge C X0 d34_2 37 5 (fun hc2 => ?_) (fun hc2 => absurd hc2 h0i)
  exact g_retV C X0 K d34_37 (by decide) (by decide) e0 ⟨rfl, N0, rfl⟩
theorem ef_33rii (m : MethodId) (a1 : Addr) (a2 : Int32) (a3 : Int32) : entryFrame m #[(.ref a1), (.int a2), (.int a3)] 5 = mkF m 0 #[rv a1, iv a2, iv a3, uu, uu] [] := by first | (simp [entryFrame, mkF, argsToLocals, Value.category, iv, rv, jv, nv, uu, sd]; done) | rfl
theorem d33_0 : decode jdk_65_method_133_code 0 = .ok (.iload_n 1, 1) := by decide +kernel
theorem d33_1 : decode jdk_65_method_133_code 1 = .ok (.iload_n 2, 1) := by decide +kernel
theorem d33_2 : decode jdk_65_method_133_code 2 = .ok (.invokestatic 343, 3) := by decide +kernel
theorem w_185 (hw : OwnW a0 Z) : Cond.before (.code ⟨"java/util/Arrays", "checkLength", "(II)V"⟩ jdk_65_method_131_code (2 : Nat) (Option.none : Option Jvm.ClassFile.FieldType)) a0 Z = true := wA hw 185 rfl
theorem w_183 (hw : OwnW a0 Z) : Cond.before (.methodLink "java/util/Arrays" (343 : Nat) ⟨"java/util/Arrays", "checkLength", "(II)V"⟩) a0 Z = true := wA hw 183 rfl
theorem pd_15 : parseMethodDescriptor "(II)V" = some ⟨[.int, .int], none⟩ := by decide +kernel
theorem w_184 (hw : OwnW a0 Z) : Cond.before (.static ⟨"java/util/Arrays", "checkLength", "(II)V"⟩) a0 Z = true := wA hw 184 rfl
theorem b_10 (hw : OwnW a0 Z) : CallS "java/util/Arrays" 343 (⟨"java/util/Arrays", "checkLength", "(II)V"⟩ : MethodName) jdk_65_method_131_code (2 : Nat) (Option.none : Option Jvm.ClassFile.FieldType) a0 Z := ⟨(w_183 hw), (w_184 hw), (w_178 hw), (w_185 hw)⟩
theorem d33_5 : decode jdk_65_method_133_code 5 = .ok (.iload_n 2, 1) := by decide +kernel
theorem d33_6 : decode jdk_65_method_133_code 6 = .ok (.iload_n 1, 1) := by decide +kernel
theorem d33_7 : decode jdk_65_method_133_code 7 = .ok (.isub, 1) := by decide +kernel
theorem d33_8 : decode jdk_65_method_133_code 8 = .ok (.istore_n 3, 1) := by decide +kernel
theorem d33_9 : decode jdk_65_method_133_code 9 = .ok (.iload_n 3, 1) := by decide +kernel
theorem d33_10 : decode jdk_65_method_133_code 10 = .ok (.newarray .byte, 2) := by decide +kernel
theorem d33_12 : decode jdk_65_method_133_code 12 = .ok (.astore 4, 2) := by decide +kernel
theorem d33_14 : decode jdk_65_method_133_code 14 = .ok (.aload_n 0, 1) := by decide +kernel
theorem d33_15 : decode jdk_65_method_133_code 15 = .ok (.iload_n 1, 1) := by decide +kernel
theorem d33_16 : decode jdk_65_method_133_code 16 = .ok (.aload 4, 2) := by decide +kernel
theorem d33_18 : decode jdk_65_method_133_code 18 = .ok (.iconst 0, 1) := by decide +kernel
theorem d33_19 : decode jdk_65_method_133_code 19 = .ok (.aload_n 0, 1) := by decide +kernel
theorem d33_20 : decode jdk_65_method_133_code 20 = .ok (.arraylength, 1) := by decide +kernel
theorem d33_21 : decode jdk_65_method_133_code 21 = .ok (.iload_n 1, 1) := by decide +kernel
theorem d33_22 : decode jdk_65_method_133_code 22 = .ok (.isub, 1) := by decide +kernel
theorem d33_23 : decode jdk_65_method_133_code 23 = .ok (.iload_n 3, 1) := by decide +kernel
theorem d33_24 : decode jdk_65_method_133_code 24 = .ok (.invokestatic 304, 3) := by decide +kernel
theorem d33_27 : decode jdk_65_method_133_code 27 = .ok (.invokestatic 150, 3) := by decide +kernel
theorem d33_30 : decode jdk_65_method_133_code 30 = .ok (.aload 4, 2) := by decide +kernel
theorem d33_32 : decode jdk_65_method_133_code 32 = .ok (.areturn, 1) := by decide +kernel
def Q33_s (Z : State) (o2 : Addr) (i1 : Int32) (kd1 : ClassId) (c1 : Nat) (l1 : List Int32) (h0 : Heap) (n0 : Nat) (v : Option Value) (h : Heap) (L : List Loc) : Prop := ∃ (o3 : Addr) (kd3 : ClassId), v = some (.ref o3) ∧ Fr n0 L ∧ h0.size ≤ o3 ∧ Keep h0 h [] ∧ Arv Z h o3 kd3 .byte (Int32.ofNat l1.length) (l1.map Value.int) (.int 0)
abbrev y33 : MethodName := (⟨"java/util/Arrays", "copyOfRangeByte", "([BII)[B"⟩ : MethodName)
theorem rm33_s {o2 : Addr} {i1 : Int32} {kd1 : ClassId} {c1 : Nat} {l1 : List Int32} (hw : OwnW a0 Z) (Z0 : n0 ≤ h0.size) (F0 : Arv Z h0 o2 kd1 .byte (Int32.ofNat c1) (l1.map Value.int) (.int 0)) (hi : Int32.ofNat l1.length = i1) (hl : l1.length ≤ c1) (hc : c1 ≤ 90) : OwnMF l Z y33 jdk_65_method_133_code 5 (some (.array .byte)) ws ⟨1, 1, 90, 18⟩ #[(.ref o2), (.int 0), (.int i1)] h0 (Q33_s Z o2 i1 kd1 c1 l1 h0 n0) := by
  refine bo (plainFor_of_name pn_32) ?_
  intro p e s m below meth c T0 G C hnm hnamed X0 e0 K
  have N0 := Fr.nil n0
  refine Goes.to (congrArg T0.setTop (ef_33rii m o2 (0 : Int32) i1)) ?_
  have K00 := Keep.refl h0 []
  refine g_iloadN C X0 d33_0 1 rfl ?_
  refine g_iloadN C X0 d33_1 2 rfl ?_
  refine g_callSn C X0 (b_10 hw) d33_2 [(.int 0), (.int i1)] [] 0 (rm34_s hw Z0 (cr_n0 hi (Nat.le_trans hl hc))) N0 pd_15 e0 5 (fun T1 _ X1 N1 e1 => ?_)
  refine g_iloadN C X1 d33_5 6 rfl ?_
  refine g_iloadN C X1 d33_6 7 rfl ?_
  refine g_isub C X1 d33_7 8 ?_
  refine g_istoreN C X1 d33_8 9 (w := (i1 - (0 : Int32))) rfl (ls' := #[rv o2, iv 0, iv i1, iv (i1 - (0 : Int32)), uu]) rfl ?_
  refine g_iloadN C X1 d33_9 10 rfl ?_
  refine g_newAE (aty := .byte) (n := (i1 - (0 : Int32))) C X1 (cap := 90) (w_14 hw) rfl e1 d33_10 12 (cr_n hi (Nat.le_trans hl hc)) (cr_cap hi (Nat.le_trans hl hc)) (by decide) (by decide) (by decide) (fun T2 h2 b2 ki2 X2 e2 g2 E2 A2 U2 => ?_)
  have f4 := F0.ext E2
  have gn_b2 : n0 ≤ b2 := Nat.le_trans Z0 (Nat.le_of_eq g2.symm)
  have Z2 := Nat.le_trans Z0 E2.1
  have sz_b2 : h0.size ≤ b2 := Nat.le_trans K00.1 (Nat.le_of_eq g2.symm)
  have K2 := K00.ext E2
  have f5 : Arv Z h2 b2 ki2 .byte (Int32.ofNat l1.length) [] (.int 0) := (cr_eq hi) ▸ A2
  refine g_astore C X2 d33_12 14 rfl (ls' := #[rv o2, iv 0, iv i1, iv (i1 - (0 : Int32)), rv b2]) rfl ?_
  refine g_aloadN C X2 d33_14 15 rfl rfl ?_
  refine g_iloadN C X2 d33_15 16 rfl ?_
  refine g_aload C X2 d33_16 18 rfl rfl ?_
  refine g_iconst C X2 d33_18 19 (v := 0) rfl ?_
  refine g_aloadN C X2 d33_19 20 rfl rfl ?_
  refine g_arraylength C X2 e2 f4 d33_20 21 ?_
  refine g_iloadN C X2 d33_21 22 rfl ?_
  refine g_isub C X2 d33_22 23 ?_
  refine g_iloadN C X2 d33_23 24 rfl ?_
  refine g_callS0 C X2 (b_3 hw) d33_24 [(.int ((Int32.ofNat c1) - (0 : Int32))), (.int (i1 - (0 : Int32)))] [(.int 0), (.ref b2), (.int 0), (.ref o2)] 4 (rm35 hw Z2) N1 pd_3 e2 27 (fun T6 _ X6 N6 e6 => ?_)
  have fb := f5.pad (pad_rep [] (.int 0) l1.length)
  refine g_acopy C X6 (w_190 hw) (w_126 hw) (w_124 hw) (w_125 hw) e6 f4 fb rfl (by decide) (by decide) (cr_h3 hi hl hc) (cr_h4 hi hl hc) (cr_h5 hi hl hc) rfl (cr_hl hi hl hc) rfl N6 gn_b2 rfl d33_27 30 (by decide) (W := 0) (Nat.le_of_eq rfl) (by decide) (fun T7 h7 L7 X7 e7 N7 Kq7 V7 => ?_)
  have f8 : Arv Z h7 b2 ki2 .byte (Int32.ofNat l1.length) (l1.map Value.int) (.int 0) := V7.pad (raw_copy rfl rfl (cr_ll hi hl hc))
  have K7 := K2.trans Kq7 (allS (Or.inr sz_b2) all0)
  refine g_aload C X7 d33_30 32 rfl rfl ?_
  exact g_retA C X7 K rfl rfl rfl d33_32 (by decide) (by decide) e7 ⟨b2, ki2, rfl, N7, sz_b2, K7, f8⟩
theorem ef_32rii (m : MethodId) (a1 : Addr) (a2 : Int32) (a3 : Int32) : entryFrame m #[(.ref a1), (.int a2), (.int a3)] 3 = mkF m 0 #[rv a1, iv a2, iv a3] [] := by first | (simp [entryFrame, mkF, argsToLocals, Value.category, iv, rv, jv, nv, uu, sd]; done) | rfl
theorem d32_0 : decode jdk_65_method_132_code 0 = .ok (.iload_n 1, 1) := by decide +kernel
theorem d32_1 : decode jdk_65_method_132_code 1 = .ok (.ifCond .ne 9, 3) := by decide +kernel
theorem d32_4 : decode jdk_65_method_132_code 4 = .ok (.iload_n 2, 1) := by decide +kernel
theorem d32_5 : decode jdk_65_method_132_code 5 = .ok (.aload_n 0, 1) := by decide +kernel
theorem d32_6 : decode jdk_65_method_132_code 6 = .ok (.arraylength, 1) := by decide +kernel
theorem d32_7 : decode jdk_65_method_132_code 7 = .ok (.if_icmp .eq 10, 3) := by decide +kernel
theorem d32_17 : decode jdk_65_method_132_code 17 = .ok (.aload_n 0, 1) := by decide +kernel
theorem d32_18 : decode jdk_65_method_132_code 18 = .ok (.invokevirtual 310, 3) := by decide +kernel
theorem w_274 (hw : OwnW a0 Z) : Cond.before (.methodLink "java/util/Arrays" (310 : Nat) ⟨"[B", "clone", "()Ljava/lang/Object;"⟩) a0 Z = true := wA hw 274 rfl
theorem w_275 (hw : OwnW a0 Z) : Cond.before (.sameMethod "[B" "java/lang/Object" "clone" "()Ljava/lang/Object;") a0 Z = true := wA hw 275 rfl
theorem w_279 (hw : OwnW a0 Z) : Cond.before (.native ⟨"java/lang/Object", "clone", "()Ljava/lang/Object;"⟩) a0 Z = true := wA hw 279 rfl
theorem w_277 (hw : OwnW a0 Z) : Cond.before (.instanceMethod ⟨"java/lang/Object", "clone", "()Ljava/lang/Object;"⟩) a0 Z = true := wA hw 277 rfl
theorem w_278 (hw : OwnW a0 Z) : Cond.before (.selects "[B" ⟨"[B", "clone", "()Ljava/lang/Object;"⟩ ⟨"java/lang/Object", "clone", "()Ljava/lang/Object;"⟩) a0 Z = true := wA hw 278 rfl
theorem w_280 (hw : OwnW a0 Z) : Cond.before (.castable "[B" "java/lang/Cloneable") a0 Z = true := wA hw 280 rfl
theorem d32_21 : decode jdk_65_method_132_code 21 = .ok (.checkcast 311, 3) := by decide +kernel
theorem w_281 (hw : OwnW a0 Z) : Cond.before (.classLink "java/util/Arrays" (311 : Nat) "[B") a0 Z = true := wA hw 281 rfl
theorem w_282 (hw : OwnW a0 Z) : Cond.before (.castable "[B" "[B") a0 Z = true := wA hw 282 rfl
theorem d32_24 : decode jdk_65_method_132_code 24 = .ok (.areturn, 1) := by decide +kernel
theorem d32_10 : decode jdk_65_method_132_code 10 = .ok (.aload_n 0, 1) := by decide +kernel
theorem d32_11 : decode jdk_65_method_132_code 11 = .ok (.iload_n 1, 1) := by decide +kernel
theorem d32_12 : decode jdk_65_method_132_code 12 = .ok (.iload_n 2, 1) := by decide +kernel
theorem d32_13 : decode jdk_65_method_132_code 13 = .ok (.invokestatic 339, 3) := by decide +kernel
theorem w_182 (hw : OwnW a0 Z) : Cond.before (.code ⟨"java/util/Arrays", "copyOfRangeByte", "([BII)[B"⟩ jdk_65_method_133_code (5 : Nat) (Option.some (Jvm.ClassFile.FieldType.array Jvm.ClassFile.FieldType.byte))) a0 Z = true := wA hw 182 rfl
theorem w_180 (hw : OwnW a0 Z) : Cond.before (.methodLink "java/util/Arrays" (339 : Nat) ⟨"java/util/Arrays", "copyOfRangeByte", "([BII)[B"⟩) a0 Z = true := wA hw 180 rfl
theorem pd_16 : parseMethodDescriptor "([BII)[B" = some ⟨[(.array .byte), .int, .int], some (.array .byte)⟩ := by decide +kernel
theorem w_181 (hw : OwnW a0 Z) : Cond.before (.static ⟨"java/util/Arrays", "copyOfRangeByte", "([BII)[B"⟩) a0 Z = true := wA hw 181 rfl
theorem d32_16 : decode jdk_65_method_132_code 16 = .ok (.areturn, 1) := by decide +kernel
def Q32_s (Z : State) (o2 : Addr) (i1 : Int32) (kd1 : ClassId) (c1 : Nat) (l1 : List Int32) (h0 : Heap) (n0 : Nat) (v : Option Value) (h : Heap) (L : List Loc) : Prop := ∃ (o3 : Addr) (kd3 : ClassId), v = some (.ref o3) ∧ Fr n0 L ∧ h0.size ≤ o3 ∧ Keep h0 h [] ∧ Arv Z h o3 kd3 .byte (Int32.ofNat l1.length) (l1.map Value.int) (.int 0)
abbrev y32 : MethodName := (⟨"java/util/Arrays", "copyOfRange", "([BII)[B"⟩ : MethodName)
theorem rm32_s {o2 : Addr} {i1 : Int32} {kd1 : ClassId} {c1 : Nat} {l1 : List Int32} (hw : OwnW a0 Z) (Z0 : n0 ≤ h0.size) (F0 : Arv Z h0 o2 kd1 .byte (Int32.ofNat c1) (l1.map Value.int) (.int 0)) (F1 : Exa Z h0 o2 "[B") (hi : Int32.ofNat l1.length = i1) (hl : l1.length ≤ c1) (hc : c1 ≤ 90) : OwnMF l Z y32 jdk_65_method_132_code 3 (some (.array .byte)) ws ⟨2, 1, 90, 34⟩ #[(.ref o2), (.int 0), (.int i1)] h0 (Q32_s Z o2 i1 kd1 c1 l1 h0 n0) := by
  refine bo (plainFor_of_name pn_32) ?_
  intro p e s m below meth c T0 G C hnm hnamed X0 e0 K
  have N0 := Fr.nil n0
  refine Goes.to (congrArg T0.setTop (ef_32rii m o2 (0 : Int32) i1)) ?_
  have K00 := Keep.refl h0 []
  refine g_iloadN C X0 d32_0 1 rfl ?_
  refine g_if_ne C X0 d32_1 10 4 (fun hc1 => absurd hc1 (by decide)) (fun hc1 => ?_)
  refine g_iloadN C X0 d32_4 5 rfl ?_
  refine g_aloadN C X0 d32_5 6 rfl rfl ?_
  refine g_arraylength C X0 e0 F0 d32_6 7 ?_
  refine g_icmp_eq C X0 d32_7 17 10 (fun hc7 => ?_) (fun hc7 => ?_)
  · refine g_aloadN C X0 d32_17 18 rfl rfl ?_
    refine g_clone C X0 (cap := 90) (W := 0) (w_274 hw) (w_275 hw) (w_279 hw) (w_277 hw) (w_278 hw) (w_280 hw) e0 F0 F1 d32_18 21 rfl (by decide) (Nat.le_of_eq rfl) (by decide) (cr_c hc) (by decide) (by decide) (fun T1 h1 b1 X1 e1 g1 E1 A1 U1 => ?_)
    have sz_b1 : h0.size ≤ b1 := Nat.le_trans K00.1 (Nat.le_of_eq g1.symm)
    have K1 := K00.ext E1
    have f5 : Arv Z h1 b1 kd1 .byte (Int32.ofNat l1.length) (l1.map Value.int) (.int 0) := (by rw [hi, hc7]; exact A1)
    refine g_castX C X1 (w_281 hw) (w_282 hw) e1 U1 d32_21 24 (fun T6 X6 e6 => ?_)
    exact g_retA C X6 K rfl rfl rfl d32_24 (by decide) (by decide) e6 ⟨b1, kd1, rfl, N0, sz_b1, K1, f5⟩
  · refine g_aloadN C X0 d32_10 11 rfl rfl ?_
    refine g_iloadN C X0 d32_11 12 rfl ?_
    refine g_iloadN C X0 d32_12 13 rfl ?_
    refine g_callS C X0 (w_180 hw) (w_181 hw) (w_178 hw) (w_182 hw) d32_13 [(.ref o2), (.int 0), (.int i1)] [] 0 (rm33_s hw Z0 F0 hi hl hc) pd_16 e0 16 (fun u7 T7 L7 X7 hQ7 => ?_)
    obtain ⟨o37, kd37, rfl, Nq7, szo37, Kq7, q7_0⟩ := hQ7
    have N7 := Fr.app N0 Nq7
    have sz_o37 : h0.size ≤ o37 := Nat.le_trans K00.1 szo37
    have K7 := K00.trans Kq7 all0
    refine ret1 ?_
    exact g_retA C X7 K rfl rfl rfl d32_16 (by decide) (by decide) rfl ⟨o37, kd37, rfl, N7, sz_o37, K7, q7_0⟩
theorem ef_29r (m : MethodId) (a1 : Addr) : entryFrame m #[(.ref a1)] 1 = mkF m 0 #[rv a1] [] := by first | (simp [entryFrame, mkF, argsToLocals, Value.category, iv, rv, jv, nv, uu, sd]; done) | rfl
theorem d29_0 : decode jdk_68_method_64_code 0 = .ok (.aload_n 0, 1) := by decide +kernel
theorem d29_1 : decode jdk_68_method_64_code 1 = .ok (.getfield 15, 3) := by decide +kernel
theorem d29_4 : decode jdk_68_method_64_code 4 = .ok (.areturn, 1) := by decide +kernel
abbrev y29 : MethodName := (⟨"java/lang/AbstractStringBuilder", "getValue", "()[B"⟩ : MethodName)
theorem rm29 {o1 o2 : Addr} (hw : OwnW a0 Z) (Z0 : n0 ≤ h0.size) (F0 : Fld Z h0 o1 "java/lang/AbstractStringBuilder" "value" "[B" (.ref o2)) : OwnMF l Z y29 jdk_68_method_64_code 1 (some (.array .byte)) ws ⟨0, 0, 0, 0⟩ #[(.ref o1)] h0 (OwnQ (some (.ref o2)) h0 n0) := by
  refine bo (plainFor_of_name pn_12) ?_
  intro p e s m below meth c T0 G C hnm hnamed X0 e0 K
  have N0 := Fr.nil n0
  refine Goes.to (congrArg T0.setTop (ef_29r m o1)) ?_
  refine g_aloadN C X0 d29_0 1 rfl rfl ?_
  refine g_getF C X0 (w_76 hw) Via.refl e0 F0 d29_1 4 (fun T1 X1 e1 => ?_)
  exact g_retA C X1 K rfl rfl rfl d29_4 (by decide) (by decide) e1 ⟨rfl, N0, rfl⟩
theorem ef_31r (m : MethodId) (a1 : Addr) : entryFrame m #[(.ref a1)] 1 = mkF m 0 #[rv a1] [] := by first | (simp [entryFrame, mkF, argsToLocals, Value.category, iv, rv, jv, nv, uu, sd]; done) | rfl
theorem d31_0 : decode jdk_68_method_6_code 0 = .ok (.aload_n 0, 1) := by decide +kernel
theorem d31_1 : decode jdk_68_method_6_code 1 = .ok (.getfield 79, 3) := by decide +kernel
theorem d31_4 : decode jdk_68_method_6_code 4 = .ok (.ireturn, 1) := by decide +kernel
abbrev y31 : MethodName := (⟨"java/lang/AbstractStringBuilder", "length", "()I"⟩ : MethodName)
theorem rm31 {o1 : Addr} {ct1 : Int32} (hw : OwnW a0 Z) (Z0 : n0 ≤ h0.size) (F0 : Fld Z h0 o1 "java/lang/AbstractStringBuilder" "count" "I" (.int ct1)) : OwnMF l Z y31 jdk_68_method_6_code 1 (some .int) ws ⟨0, 0, 0, 0⟩ #[(.ref o1)] h0 (OwnQ (some (.int ct1)) h0 n0) := by
  refine bo (plainFor_of_name pn_12) ?_
  intro p e s m below meth c T0 G C hnm hnamed X0 e0 K
  have N0 := Fr.nil n0
  refine Goes.to (congrArg T0.setTop (ef_31r m o1)) ?_
  refine g_aloadN C X0 d31_0 1 rfl rfl ?_
  refine g_getF C X0 (w_100 hw) Via.refl e0 F0 d31_1 4 (fun T1 X1 e1 => ?_)
  exact g_retI C X1 K d31_4 (by decide) (by decide) e1 ⟨rfl, N0, rfl⟩
theorem ef_30r (m : MethodId) (a1 : Addr) : entryFrame m #[(.ref a1)] 1 = mkF m 0 #[rv a1] [] := by first | (simp [entryFrame, mkF, argsToLocals, Value.category, iv, rv, jv, nv, uu, sd]; done) | rfl
theorem d30_0 : decode jdk_67_method_93_code 0 = .ok (.aload_n 0, 1) := by decide +kernel
theorem d30_1 : decode jdk_67_method_93_code 1 = .ok (.invokespecial 343, 3) := by decide +kernel
theorem w_174 (hw : OwnW a0 Z) : Cond.before (.code ⟨"java/lang/AbstractStringBuilder", "length", "()I"⟩ jdk_68_method_6_code (1 : Nat) (Option.some Jvm.ClassFile.FieldType.int)) a0 Z = true := wA hw 174 rfl
theorem w_173 (hw : OwnW a0 Z) : Cond.before (.methodLink "java/lang/StringBuilder" (343 : Nat) ⟨"java/lang/AbstractStringBuilder", "length", "()I"⟩) a0 Z = true := wA hw 173 rfl
theorem w_168 (hw : OwnW a0 Z) : Cond.before (.declares ⟨"java/lang/AbstractStringBuilder", "length", "()I"⟩) a0 Z = true := wA hw 168 rfl
theorem w_169 (hw : OwnW a0 Z) : Cond.before (.instanceMethod ⟨"java/lang/AbstractStringBuilder", "length", "()I"⟩) a0 Z = true := wA hw 169 rfl
theorem d30_4 : decode jdk_67_method_93_code 4 = .ok (.ireturn, 1) := by decide +kernel
abbrev y30 : MethodName := (⟨"java/lang/StringBuilder", "length", "()I"⟩ : MethodName)
theorem rm30 {o1 : Addr} {ct1 : Int32} (hw : OwnW a0 Z) (Z0 : n0 ≤ h0.size) (F0 : Exa Z h0 o1 "java/lang/StringBuilder") (F1 : Fld Z h0 o1 "java/lang/AbstractStringBuilder" "count" "I" (.int ct1)) : OwnMF l Z y30 jdk_67_method_93_code 1 (some .int) ws ⟨1, 0, 0, 12⟩ #[(.ref o1)] h0 (OwnQ (some (.int ct1)) h0 n0) := by
  refine bo (plainFor_of_name pn_11) ?_
  intro p e s m below meth c T0 G C hnm hnamed X0 e0 K
  have N0 := Fr.nil n0
  refine Goes.to (congrArg T0.setTop (ef_30r m o1)) ?_
  refine g_aloadN C X0 d30_0 1 rfl rfl ?_
  refine g_callU C X0 (w_173 hw) (w_168 hw) (w_169 hw) (w_87 hw) (w_105 hw) rfl (w_174 hw) (w_72 hw) (by decide) F0 d30_1 [] [] 0 (rm31 hw Z0 F1) pd_9 e0 4 (fun u1 T1 L1 X1 hQ1 => ?_)
  obtain ⟨rfl, Nq1, eq1⟩ := hQ1
  have N1 := Fr.app N0 Nq1
  refine ret1 ?_
  exact g_retI C X1 K d30_4 (by decide) (by decide) eq1 ⟨rfl, N1, rfl⟩
theorem rm24 {o1 : Addr} {cs1 : Int32} (hw : OwnW a0 Z) (Z0 : n0 ≤ h0.size) (F0 : Fld Z h0 o1 "java/lang/AbstractStringBuilder" "coder" "B" (.int 0)) (F1 : OSc Z h0 cs1) (hcs : ¬ cs1 = (0 : Int32)) : OwnMF l Z y24 jdk_68_method_68_code 1 (some .boolean) ws ⟨0, 0, 0, 0⟩ #[(.ref o1)] h0 (OwnQ (some (.int 1)) h0 n0) := by
  refine bo (plainFor_of_name pn_12) ?_
  intro p e s m below meth c T0 G C hnm hnamed X0 e0 K
  have N0 := Fr.nil n0
  refine Goes.to (congrArg T0.setTop (ef_24r m o1)) ?_
  refine g_getS C X0 (w_75 hw) Via.refl e0 F1 d24_0 3 (fun T1 X1 e1 => ?_)
  refine g_if_eq C X1 d24_3 17 6 (fun hc3 => absurd hc3 hcs) (fun hc3 => ?_)
  refine g_aloadN C X1 d24_6 7 rfl rfl ?_
  refine g_getF C X1 (w_78 hw) Via.refl e1 F0 d24_7 10 (fun T2 X2 e2 => ?_)
  refine g_if_ne C X2 d24_10 17 13 (fun hc10 => absurd hc10 (by decide)) (fun hc10 => ?_)
  refine g_iconst C X2 d24_13 14 (v := 1) rfl ?_
  refine g_goto C X2 d24_14 18 ?_
  exact g_retN C X2 K (by simp) d24_18 (by decide) (by decide) e2 ⟨rfl, N0, rfl⟩
theorem ef_28rrn (m : MethodId) (a1 : Addr) (a2 : Addr) : entryFrame m #[(.ref a1), (.ref a2), .null] 5 = mkF m 0 #[rv a1, rv a2, nv, uu, uu] [] := by first | (simp [entryFrame, mkF, argsToLocals, Value.category, iv, rv, jv, nv, uu, sd]; done) | rfl
theorem d28_0 : decode jdk_42_method_150_code 0 = .ok (.aload_n 0, 1) := by decide +kernel
theorem d28_1 : decode jdk_42_method_150_code 1 = .ok (.invokespecial 1, 3) := by decide +kernel
theorem w_19 (hw : OwnW a0 Z) : Cond.before (.methodLink "java/lang/String" (1 : Nat) ⟨"java/lang/Object", "<init>", "()V"⟩) a0 Z = true := wA hw 19 rfl
theorem d28_4 : decode jdk_42_method_150_code 4 = .ok (.aload_n 1, 1) := by decide +kernel
theorem d28_5 : decode jdk_42_method_150_code 5 = .ok (.invokevirtual 552, 3) := by decide +kernel
theorem w_166 (hw : OwnW a0 Z) : Cond.before (.code ⟨"java/lang/AbstractStringBuilder", "getValue", "()[B"⟩ jdk_68_method_64_code (1 : Nat) (Option.some (Jvm.ClassFile.FieldType.array Jvm.ClassFile.FieldType.byte))) a0 Z = true := wA hw 166 rfl
theorem w_162 (hw : OwnW a0 Z) : Cond.before (.methodLink "java/lang/String" (552 : Nat) ⟨"java/lang/AbstractStringBuilder", "getValue", "()[B"⟩) a0 Z = true := wA hw 162 rfl
theorem pd_17 : parseMethodDescriptor "()[B" = some ⟨[], some (.array .byte)⟩ := by decide +kernel
theorem w_163 (hw : OwnW a0 Z) : Cond.before (.declares ⟨"java/lang/AbstractStringBuilder", "getValue", "()[B"⟩) a0 Z = true := wA hw 163 rfl
theorem w_165 (hw : OwnW a0 Z) : Cond.before (.selects "java/lang/StringBuilder" ⟨"java/lang/AbstractStringBuilder", "getValue", "()[B"⟩ ⟨"java/lang/AbstractStringBuilder", "getValue", "()[B"⟩) a0 Z = true := wA hw 165 rfl
theorem w_164 (hw : OwnW a0 Z) : Cond.before (.instanceMethod ⟨"java/lang/AbstractStringBuilder", "getValue", "()[B"⟩) a0 Z = true := wA hw 164 rfl
theorem b_11 (hw : OwnW a0 Z) : CallV "java/lang/String" 552 (⟨"java/lang/AbstractStringBuilder", "getValue", "()[B"⟩ : MethodName) "java/lang/StringBuilder" jdk_68_method_64_code (1 : Nat) (Option.some (Jvm.ClassFile.FieldType.array Jvm.ClassFile.FieldType.byte)) a0 Z := ⟨(w_162 hw), (w_163 hw), (w_165 hw), (w_164 hw), (w_166 hw), (w_72 hw)⟩
theorem d28_8 : decode jdk_42_method_150_code 8 = .ok (.astore_n 3, 1) := by decide +kernel
theorem d28_9 : decode jdk_42_method_150_code 9 = .ok (.aload_n 1, 1) := by decide +kernel
theorem d28_10 : decode jdk_42_method_150_code 10 = .ok (.invokevirtual 549, 3) := by decide +kernel
theorem w_172 (hw : OwnW a0 Z) : Cond.before (.code ⟨"java/lang/StringBuilder", "length", "()I"⟩ jdk_67_method_93_code (1 : Nat) (Option.some Jvm.ClassFile.FieldType.int)) a0 Z = true := wA hw 172 rfl
theorem w_64 (hw : OwnW a0 Z) : Cond.before (.initialized "java/lang/StringBuilder") a0 Z = true := wA hw 64 rfl
theorem w_167 (hw : OwnW a0 Z) : Cond.before (.methodLink "java/lang/String" (549 : Nat) ⟨"java/lang/AbstractStringBuilder", "length", "()I"⟩) a0 Z = true := wA hw 167 rfl
theorem w_170 (hw : OwnW a0 Z) : Cond.before (.selects "java/lang/StringBuilder" ⟨"java/lang/AbstractStringBuilder", "length", "()I"⟩ ⟨"java/lang/StringBuilder", "length", "()I"⟩) a0 Z = true := wA hw 170 rfl
theorem w_171 (hw : OwnW a0 Z) : Cond.before (.instanceMethod ⟨"java/lang/StringBuilder", "length", "()I"⟩) a0 Z = true := wA hw 171 rfl
theorem d28_13 : decode jdk_42_method_150_code 13 = .ok (.istore 4, 2) := by decide +kernel
theorem d28_15 : decode jdk_42_method_150_code 15 = .ok (.aload_n 1, 1) := by decide +kernel
theorem d28_16 : decode jdk_42_method_150_code 16 = .ok (.invokevirtual 1047, 3) := by decide +kernel
theorem w_175 (hw : OwnW a0 Z) : Cond.before (.methodLink "java/lang/String" (1047 : Nat) ⟨"java/lang/AbstractStringBuilder", "isLatin1", "()Z"⟩) a0 Z = true := wA hw 175 rfl
theorem b_12 (hw : OwnW a0 Z) : CallV "java/lang/String" 1047 (⟨"java/lang/AbstractStringBuilder", "isLatin1", "()Z"⟩ : MethodName) "java/lang/StringBuilder" jdk_68_method_68_code (1 : Nat) (Option.some Jvm.ClassFile.FieldType.boolean) a0 Z := ⟨(w_175 hw), (w_142 hw), (w_144 hw), (w_143 hw), (w_145 hw), (w_72 hw)⟩
theorem d28_19 : decode jdk_42_method_150_code 19 = .ok (.ifCond .eq 22, 3) := by decide +kernel
theorem d28_22 : decode jdk_42_method_150_code 22 = .ok (.aload_n 0, 1) := by decide +kernel
theorem d28_23 : decode jdk_42_method_150_code 23 = .ok (.iconst 0, 1) := by decide +kernel
theorem d28_24 : decode jdk_42_method_150_code 24 = .ok (.putfield 15, 3) := by decide +kernel
theorem w_25 (hw : OwnW a0 Z) : Cond.before (.laysFinal "java/lang/String" "java/lang/String" "coder" "B") a0 Z = true := wA hw 25 rfl
theorem w_10 (hw : OwnW a0 Z) : Cond.before (.instantiable "java/lang/String" (4 : Nat)) a0 Z = true := wA hw 10 rfl
theorem w_23 (hw : OwnW a0 Z) : Cond.before (.laysFinal "java/lang/String" "java/lang/String" "value" "[B") a0 Z = true := wA hw 23 rfl
theorem d28_27 : decode jdk_42_method_150_code 27 = .ok (.aload_n 0, 1) := by decide +kernel
theorem d28_28 : decode jdk_42_method_150_code 28 = .ok (.aload_n 3, 1) := by decide +kernel
theorem d28_29 : decode jdk_42_method_150_code 29 = .ok (.iconst 0, 1) := by decide +kernel
theorem d28_30 : decode jdk_42_method_150_code 30 = .ok (.iload 4, 2) := by decide +kernel
theorem d28_32 : decode jdk_42_method_150_code 32 = .ok (.invokestatic 54, 3) := by decide +kernel
theorem w_179 (hw : OwnW a0 Z) : Cond.before (.code ⟨"java/util/Arrays", "copyOfRange", "([BII)[B"⟩ jdk_65_method_132_code (3 : Nat) (Option.some (Jvm.ClassFile.FieldType.array Jvm.ClassFile.FieldType.byte))) a0 Z = true := wA hw 179 rfl
theorem w_176 (hw : OwnW a0 Z) : Cond.before (.methodLink "java/lang/String" (54 : Nat) ⟨"java/util/Arrays", "copyOfRange", "([BII)[B"⟩) a0 Z = true := wA hw 176 rfl
theorem w_177 (hw : OwnW a0 Z) : Cond.before (.static ⟨"java/util/Arrays", "copyOfRange", "([BII)[B"⟩) a0 Z = true := wA hw 177 rfl
theorem d28_35 : decode jdk_42_method_150_code 35 = .ok (.putfield 9, 3) := by decide +kernel
theorem d28_38 : decode jdk_42_method_150_code 38 = .ok (.goto 59, 3) := by decide +kernel
theorem d28_97 : decode jdk_42_method_150_code 97 = .ok (.return_, 1) := by decide +kernel
def Q28 (Z : State) (o9 : Addr) (o1 : Addr) (o2 : Addr) (kd1 : ClassId) (c1 : Nat) (l1 : List Int32) (cs1 : Int32) (h0 : Heap) (n0 : Nat) (v : Option Value) (h : Heap) (L : List Loc) : Prop := ∃ (o3 : Addr) (kd3 : ClassId), v = none ∧ Fr n0 L ∧ h0.size ≤ o3 ∧ Keep h0 h [o9] ∧ OEs Z h o9 ∧ OFv Z h o9 (.ref o3) ∧ OFc Z h o9 ∧ Arv Z h o3 kd3 .byte (Int32.ofNat l1.length) (l1.map Value.int) (.int 0)
abbrev y28 : MethodName := (⟨"java/lang/String", "<init>", "(Ljava/lang/AbstractStringBuilder;Ljava/lang/Void;)V"⟩ : MethodName)
theorem rm28 {o9 o1 o2 : Addr} {kd1 : ClassId} {c1 : Nat} {l1 : List Int32} {cs1 : Int32} (hw : OwnW a0 Z) (Z0 : n0 ≤ h0.size) (F0 : OEs Z h0 o9) (F1 : OFv Z h0 o9 .null) (F2 : OFc Z h0 o9) (F3 : Exa Z h0 o1 "java/lang/StringBuilder") (F4 : Fld Z h0 o1 "java/lang/AbstractStringBuilder" "value" "[B" (.ref o2)) (F5 : Fld Z h0 o1 "java/lang/AbstractStringBuilder" "coder" "B" (.int 0)) (F6 : Fld Z h0 o1 "java/lang/AbstractStringBuilder" "count" "I" (.int (Int32.ofNat l1.length))) (F7 : Arv Z h0 o2 kd1 .byte (Int32.ofNat c1) (l1.map Value.int) (.int 0)) (F8 : Exa Z h0 o2 "[B") (F9 : OSc Z h0 cs1) (gn_o9 : n0 ≤ o9) (hcs : ¬ cs1 = (0 : Int32)) (hl : l1.length ≤ c1) (hc : c1 ≤ 90) (ne_o1_o9 : o1 ≠ o9) (ne_o2_o9 : o2 ≠ o9) (ne_o1_o2 : o1 ≠ o2) : OwnMF l Z y28 jdk_42_method_150_code 5 none ws ⟨3, 1, 90, 49⟩ #[(.ref o9), (.ref o1), .null] h0 (Q28 Z o9 o1 o2 kd1 c1 l1 cs1 h0 n0) := by
  refine bo (plainFor_of_name pn_1) ?_
  intro p e s m below meth c T0 G C hnm hnamed X0 e0 K
  have N0 := Fr.nil n0
  refine Goes.to (congrArg T0.setTop (ef_28rrn m o9 o1)) ?_
  have K00 := Keep.refl h0 [o9]
  refine g_aloadN C X0 d28_0 1 rfl rfl ?_
  refine g_initO C X0 (w_19 hw) (w_20 hw) (w_21 hw) e0 rfl d28_1 4 (by decide) (W := 0) (Nat.le_of_eq rfl) (by decide) (fun T1 X1 e1 => ?_)
  refine g_aloadN C X1 d28_4 5 rfl rfl ?_
  refine g_callV0 C X1 (b_11 hw) F3 d28_5 [] [] 0 (rm29 hw Z0 F4) N0 pd_17 e1 8 (fun T2 _ X2 N2 e2 => ?_)
  refine g_astoreN C X2 d28_8 9 rfl (ls' := #[rv o9, rv o1, nv, rv o2, uu]) rfl ?_
  refine g_aloadN C X2 d28_9 10 rfl rfl ?_
  refine g_callV C X2 (w_167 hw) (w_168 hw) (notFace_via (mvT C.2.1 (w_105 hw)) rfl) (w_170 hw) (w_171 hw) (w_172 hw) (w_64 hw) F3 d28_10 [] [] 0 (rm30 hw Z0 F3 F6) pd_9 e2 13 (fun u3 T3 L3 X3 hQ3 => ?_)
  obtain ⟨rfl, Nq3, eq3⟩ := hQ3
  have N3 := Fr.app N2 Nq3
  refine ret1 ?_
  refine g_istore C X3 d28_13 15 (w := (Int32.ofNat l1.length)) rfl (ls' := #[rv o9, rv o1, nv, rv o2, iv (Int32.ofNat l1.length)]) rfl ?_
  refine g_aloadN C X3 d28_15 16 rfl rfl ?_
  refine g_callV0 C X3 (b_12 hw) F3 d28_16 [] [] 0 (rm24 hw Z0 F5 F9 hcs) N3 pd_12 eq3 19 (fun T4 _ X4 N4 e4 => ?_)
  refine g_if_eq C X4 d28_19 41 22 (fun hc19 => absurd hc19 (by decide)) (fun hc19 => ?_)
  refine g_aloadN C X4 d28_22 23 rfl rfl ?_
  refine g_iconst C X4 d28_23 24 (v := 0) rfl ?_
  refine g_putFN C X4 (w_24 hw) Via.refl e4 F2 F0 (Or.inr ⟨(w_25 hw), rfl, hnm⟩) (w_10 hw) (ty := .byte) (by decide) (v' := (.int 0)) (by decide) (by decide) d28_24 27 (fun T5 h5 X5 e5 W5 => ?_)
  have f6 := F0.wr W5
  have f7 := F1.other W5 (Or.inr (slot_ne (Or.inr (w_23 hw)) (Or.inr (w_25 hw)) (by decide) (t := (.array .byte)) (t' := .byte) (by decide) (by decide)))
  have f8 := F2.same W5
  have f13 := F7.other W5 ne_o2_o9
  have f14 := F8.wr W5
  have N5 := Fr.snoc X5 N4 gn_o9
  have Z5 := Nat.le_trans Z0 (Nat.le_of_eq W5.size.symm)
  have K5 := K00.wr W5 (Or.inl (List.mem_of_getElem? (i := 0) rfl))
  refine g_aloadN C X5 d28_27 28 rfl rfl ?_
  refine g_aloadN C X5 d28_28 29 rfl rfl ?_
  refine g_iconst C X5 d28_29 30 (v := 0) rfl ?_
  refine g_iload C X5 d28_30 32 rfl ?_
  refine g_callS C X5 (w_176 hw) (w_177 hw) (w_178 hw) (w_179 hw) d28_32 [(.ref o2), (.int 0), (.int (Int32.ofNat l1.length))] [(.ref o9)] 1 (rm32_s hw Z5 f13 f14 rfl hl hc) pd_16 e5 35 (fun u16 T16 L16 X16 hQ16 => ?_)
  obtain ⟨o316, kd316, rfl, Nq16, szo316, Kq16, q16_0⟩ := hQ16
  have N16 := Fr.app N5 Nq16
  have n19 : o9 ≠ o316 := Nat.ne_of_lt (Nat.lt_of_lt_of_le f6.lt szo316)
  have f20 := f6.keep Kq16
  have f21 := f7.keep Kq16 nin0
  have f22 := f8.keep Kq16 nin0
  have sz_o316 : h0.size ≤ o316 := Nat.le_trans K5.1 szo316
  have K16 := K5.trans Kq16 all0
  refine ret1 ?_
  refine g_putF C X16 (w_22 hw) Via.refl rfl f21 f20 (Or.inr ⟨(w_23 hw), rfl, hnm⟩) (w_10 hw) (ty := (.array .byte)) (by decide) rfl rfl d28_35 38 (fun T30 h30 X30 e30 W30 => ?_)
  have f31 := f20.wr W30
  have f32 := f21.same W30
  have f33 := f22.other W30 (Or.inr (slot_ne (Or.inr (w_25 hw)) (Or.inr (w_23 hw)) (by decide) (t := .byte) (t' := (.array .byte)) (by decide) (by decide)))
  have f41 := q16_0.other W30 (Ne.symm n19)
  have N30 := Fr.snoc X30 N16 gn_o9
  have K30 := K16.wr W30 (Or.inl (List.mem_of_getElem? (i := 0) rfl))
  refine g_goto C X30 d28_38 97 ?_
  exact g_retV C X30 K d28_97 (by decide) (by decide) e30 ⟨o316, kd316, rfl, N30, sz_o316, K30, f31, f32, f33, f41⟩
theorem ef_27rr (m : MethodId) (a1 : Addr) (a2 : Addr) : entryFrame m #[(.ref a1), (.ref a2)] 2 = mkF m 0 #[rv a1, rv a2] [] := by first | (simp [entryFrame, mkF, argsToLocals, Value.category, iv, rv, jv, nv, uu, sd]; done) | rfl
theorem d27_0 : decode jdk_42_method_53_code 0 = .ok (.aload_n 0, 1) := by decide +kernel
theorem d27_1 : decode jdk_42_method_53_code 1 = .ok (.aload_n 1, 1) := by decide +kernel
theorem d27_2 : decode jdk_42_method_53_code 2 = .ok (.aconst_null, 1) := by decide +kernel
theorem d27_3 : decode jdk_42_method_53_code 3 = .ok (.invokespecial 489, 3) := by decide +kernel
theorem w_161 (hw : OwnW a0 Z) : Cond.before (.code ⟨"java/lang/String", "<init>", "(Ljava/lang/AbstractStringBuilder;Ljava/lang/Void;)V"⟩ jdk_42_method_150_code (5 : Nat) (Option.none : Option Jvm.ClassFile.FieldType)) a0 Z = true := wA hw 161 rfl
theorem w_159 (hw : OwnW a0 Z) : Cond.before (.methodLink "java/lang/String" (489 : Nat) ⟨"java/lang/String", "<init>", "(Ljava/lang/AbstractStringBuilder;Ljava/lang/Void;)V"⟩) a0 Z = true := wA hw 159 rfl
theorem pd_18 : parseMethodDescriptor "(Ljava/lang/AbstractStringBuilder;Ljava/lang/Void;)V" = some ⟨[(.object "java/lang/AbstractStringBuilder"), (.object "java/lang/Void")], none⟩ := by decide +kernel
theorem w_160 (hw : OwnW a0 Z) : Cond.before (.instanceMethod ⟨"java/lang/String", "<init>", "(Ljava/lang/AbstractStringBuilder;Ljava/lang/Void;)V"⟩) a0 Z = true := wA hw 160 rfl
theorem d27_6 : decode jdk_42_method_53_code 6 = .ok (.return_, 1) := by decide +kernel
def Q27 (Z : State) (o9 : Addr) (o1 : Addr) (o2 : Addr) (kd1 : ClassId) (c1 : Nat) (l1 : List Int32) (cs1 : Int32) (h0 : Heap) (n0 : Nat) (v : Option Value) (h : Heap) (L : List Loc) : Prop := ∃ (o3 : Addr) (kd3 : ClassId), v = none ∧ Fr n0 L ∧ h0.size ≤ o3 ∧ Keep h0 h [o9] ∧ OEs Z h o9 ∧ OFv Z h o9 (.ref o3) ∧ OFc Z h o9 ∧ Arv Z h o3 kd3 .byte (Int32.ofNat l1.length) (l1.map Value.int) (.int 0)
abbrev y27 : MethodName := (⟨"java/lang/String", "<init>", "(Ljava/lang/StringBuilder;)V"⟩ : MethodName)
theorem rm27 {o9 o1 o2 : Addr} {kd1 : ClassId} {c1 : Nat} {l1 : List Int32} {cs1 : Int32} (hw : OwnW a0 Z) (Z0 : n0 ≤ h0.size) (F0 : OEs Z h0 o9) (F1 : OFv Z h0 o9 .null) (F2 : OFc Z h0 o9) (F3 : Exa Z h0 o1 "java/lang/StringBuilder") (F4 : Fld Z h0 o1 "java/lang/AbstractStringBuilder" "value" "[B" (.ref o2)) (F5 : Fld Z h0 o1 "java/lang/AbstractStringBuilder" "coder" "B" (.int 0)) (F6 : Fld Z h0 o1 "java/lang/AbstractStringBuilder" "count" "I" (.int (Int32.ofNat l1.length))) (F7 : Arv Z h0 o2 kd1 .byte (Int32.ofNat c1) (l1.map Value.int) (.int 0)) (F8 : Exa Z h0 o2 "[B") (F9 : OSc Z h0 cs1) (gn_o9 : n0 ≤ o9) (hcs : ¬ cs1 = (0 : Int32)) (hl : l1.length ≤ c1) (hc : c1 ≤ 90) (ne_o1_o9 : o1 ≠ o9) (ne_o2_o9 : o2 ≠ o9) (ne_o1_o2 : o1 ≠ o2) : OwnMF l Z y27 jdk_42_method_53_code 2 none ws ⟨4, 1, 90, 65⟩ #[(.ref o9), (.ref o1)] h0 (Q27 Z o9 o1 o2 kd1 c1 l1 cs1 h0 n0) := by
  refine bo (plainFor_of_name pn_1) ?_
  intro p e s m below meth c T0 G C hnm hnamed X0 e0 K
  have N0 := Fr.nil n0
  refine Goes.to (congrArg T0.setTop (ef_27rr m o9 o1)) ?_
  have K00 := Keep.refl h0 [o9]
  refine g_aloadN C X0 d27_0 1 rfl rfl ?_
  refine g_aloadN C X0 d27_1 2 rfl rfl ?_
  refine g_aconstNull C X0 d27_2 3 ?_
  refine g_callI C X0 rfl (w_159 hw) (w_160 hw) (w_2 hw) (w_161 hw) d27_3 [(.ref o1), .null] [] 0 (rm28 hw Z0 F0 F1 F2 F3 F4 F5 F6 F7 F8 F9 gn_o9 hcs hl hc ne_o1_o9 ne_o2_o9 ne_o1_o2) pd_18 e0 6 (fun u1 T1 L1 X1 hQ1 => ?_)
  obtain ⟨o31, kd31, rfl, Nq1, szo31, Kq1, q1_0, q1_1, q1_2, q1_3⟩ := hQ1
  have N1 := Fr.app N0 Nq1
  have sz_o31 : h0.size ≤ o31 := Nat.le_trans K00.1 szo31
  have K1 := K00.trans Kq1 (allS (Or.inl (List.mem_of_getElem? (i := 0) rfl)) all0)
  refine ret0 ?_
  exact g_retV C X1 K d27_6 (by decide) (by decide) rfl ⟨o31, kd31, rfl, N1, sz_o31, K1, q1_0, q1_1, q1_2, q1_3⟩
theorem ef_26r (m : MethodId) (a1 : Addr) : entryFrame m #[(.ref a1)] 1 = mkF m 0 #[rv a1] [] := by first | (simp [entryFrame, mkF, argsToLocals, Value.category, iv, rv, jv, nv, uu, sd]; done) | rfl
theorem d26_0 : decode jdk_67_method_42_code 0 = .ok (.new 18, 3) := by decide +kernel
theorem w_155 (hw : OwnW a0 Z) : Cond.before (.classLink "java/lang/StringBuilder" (18 : Nat) "java/lang/String") a0 Z = true := wA hw 155 rfl
theorem d26_3 : decode jdk_67_method_42_code 3 = .ok (.dup, 1) := by decide +kernel
theorem d26_4 : decode jdk_67_method_42_code 4 = .ok (.aload_n 0, 1) := by decide +kernel
theorem d26_5 : decode jdk_67_method_42_code 5 = .ok (.invokespecial 137, 3) := by decide +kernel
theorem w_158 (hw : OwnW a0 Z) : Cond.before (.code ⟨"java/lang/String", "<init>", "(Ljava/lang/StringBuilder;)V"⟩ jdk_42_method_53_code (2 : Nat) (Option.none : Option Jvm.ClassFile.FieldType)) a0 Z = true := wA hw 158 rfl
theorem w_156 (hw : OwnW a0 Z) : Cond.before (.methodLink "java/lang/StringBuilder" (137 : Nat) ⟨"java/lang/String", "<init>", "(Ljava/lang/StringBuilder;)V"⟩) a0 Z = true := wA hw 156 rfl
theorem pd_19 : parseMethodDescriptor "(Ljava/lang/StringBuilder;)V" = some ⟨[(.object "java/lang/StringBuilder")], none⟩ := by decide +kernel
theorem w_157 (hw : OwnW a0 Z) : Cond.before (.instanceMethod ⟨"java/lang/String", "<init>", "(Ljava/lang/StringBuilder;)V"⟩) a0 Z = true := wA hw 157 rfl
theorem d26_8 : decode jdk_67_method_42_code 8 = .ok (.areturn, 1) := by decide +kernel
def Q26 (Z : State) (o1 : Addr) (o2 : Addr) (kd1 : ClassId) (c1 : Nat) (l1 : List Int32) (cs1 : Int32) (h0 : Heap) (n0 : Nat) (v : Option Value) (h : Heap) (L : List Loc) : Prop := ∃ (o4 : Addr) (o3 : Addr) (kd3 : ClassId), v = some (.ref o4) ∧ Fr n0 L ∧ h0.size ≤ o4 ∧ h0.size ≤ o3 ∧ Keep h0 h [] ∧ OEs Z h o4 ∧ OFv Z h o4 (.ref o3) ∧ OFc Z h o4 ∧ Arv Z h o3 kd3 .byte (Int32.ofNat l1.length) (l1.map Value.int) (.int 0)
abbrev y26 : MethodName := (⟨"java/lang/StringBuilder", "toString", "()Ljava/lang/String;"⟩ : MethodName)
theorem rm26 {o1 o2 : Addr} {kd1 : ClassId} {c1 : Nat} {l1 : List Int32} {cs1 : Int32} (hw : OwnW a0 Z) (Z0 : n0 ≤ h0.size) (F0 : Exa Z h0 o1 "java/lang/StringBuilder") (F1 : Fld Z h0 o1 "java/lang/AbstractStringBuilder" "value" "[B" (.ref o2)) (F2 : Fld Z h0 o1 "java/lang/AbstractStringBuilder" "coder" "B" (.int 0)) (F3 : Fld Z h0 o1 "java/lang/AbstractStringBuilder" "count" "I" (.int (Int32.ofNat l1.length))) (F4 : Arv Z h0 o2 kd1 .byte (Int32.ofNat c1) (l1.map Value.int) (.int 0)) (F5 : Exa Z h0 o2 "[B") (F6 : OSc Z h0 cs1) (hcs : ¬ cs1 = (0 : Int32)) (hl : l1.length ≤ c1) (hc : c1 ≤ 90) (ne_o1_o2 : o1 ≠ o2) : OwnMF l Z y26 jdk_67_method_42_code 1 (some (.object "java/lang/String")) ws ⟨5, 2, 94, 79⟩ #[(.ref o1)] h0 (Q26 Z o1 o2 kd1 c1 l1 cs1 h0 n0) := by
  refine bo (plainFor_of_name pn_11) ?_
  intro p e s m below meth c T0 G C hnm hnamed X0 e0 K
  have N0 := Fr.nil n0
  refine Goes.to (congrArg T0.setTop (ef_26r m o1)) ?_
  have K00 := Keep.refl h0 []
  refine g_new C X0 (w_155 hw) (w_10 hw) (w_2 hw) e0 d26_0 3 (by decide) (by decide) (fun T1 h1 b1 X1 e1 g1 E1 A1 D1 => ?_)
  have n2 : o1 ≠ b1 := Nat.ne_of_lt (Nat.lt_of_lt_of_eq F0.lt g1.symm)
  have n3 : o2 ≠ b1 := Nat.ne_of_lt (Nat.lt_of_lt_of_eq F4.lt g1.symm)
  have f4 := F0.ext E1
  have f5 := F1.ext E1
  have f6 := F2.ext E1
  have f7 := F3.ext E1
  have f8 := F4.ext E1
  have f9 := F5.ext E1
  have f10 := F6.ext E1
  have gn_b1 : n0 ≤ b1 := Nat.le_trans Z0 (Nat.le_of_eq g1.symm)
  have Z1 := Nat.le_trans Z0 E1.1
  have sz_b1 : h0.size ≤ b1 := Nat.le_trans K00.1 (Nat.le_of_eq g1.symm)
  have K1 := K00.ext E1
  have f11 : OFv Z h1 b1 .null := D1 (Or.inr (w_23 hw)) (ty := (.array .byte)) (by decide)
  have f12 : OFc Z h1 b1 := D1 (Or.inr (w_25 hw)) (ty := .byte) (by decide)
  refine g_dup C X1 d26_3 4 rfl ?_
  refine g_aloadN C X1 d26_4 5 rfl rfl ?_
  refine g_callI C X1 rfl (w_156 hw) (w_157 hw) (w_2 hw) (w_158 hw) d26_5 [(.ref o1)] [(.ref b1)] 1 (rm27 hw Z1 A1 f11 f12 f4 f5 f6 f7 f8 f9 f10 gn_b1 hcs hl hc n2 n3 ne_o1_o2) pd_19 e1 8 (fun u13 T13 L13 X13 hQ13 => ?_)
  obtain ⟨o313, kd313, rfl, Nq13, szo313, Kq13, q13_0, q13_1, q13_2, q13_3⟩ := hQ13
  have N13 := Fr.app N0 Nq13
  have sz_o313 : h0.size ≤ o313 := Nat.le_trans K1.1 szo313
  have K13 := K1.trans Kq13 (allS (Or.inr sz_b1) all0)
  refine ret0 ?_
  exact g_retA C X13 K rfl rfl rfl d26_8 (by decide) (by decide) rfl ⟨b1, o313, kd313, rfl, N13, sz_b1, sz_o313, K13, q13_0, q13_1, q13_2, q13_3⟩
theorem i_inc (a : Nat) : Int32.ofNat a + Int32.ofInt 1 = Int32.ofNat (a + 1) := i_add a 1
theorem set_app {l : List Int32} {x y : Int32} {n : Nat} (hn : n = l.length) (h : x = y) : (l.map Value.int ++ List.replicate 1 (Value.int 0)).set n (.int x) = (l ++ [y]).map Value.int := by
  subst hn h
  rw [List.set_append_right _ _ (by simp)]
  simp
theorem set_lt {l : List Int32} {n : Nat} (hn : n = l.length) : n < (l.map Value.int ++ List.replicate 1 (Value.int 0)).length := by subst hn; simp
theorem set_in {n : Nat} {i b : Int32} {m : Nat} (hi : Int32.ofNat n = i) (hb : Int32.ofNat m = b) (h : n < m) (hm : m ≤ 1000) : ¬ i < 0 ∧ i < b := by subst hi hb; exact i_in _ _ h (by omega)
theorem set_nat {n : Nat} {i : Int32} (hi : Int32.ofNat n = i) (h : n ≤ 1000) : i.toNatClampNeg = n := by subst hi; exact i_toNat _ (by omega)
theorem narb (k : Fin 128) : nar .byte (Int32.ofNat k.val) = Int32.ofNat k.val := by revert k; decide +kernel

theorem ef_53r (m : MethodId) (a1 : Addr) : entryFrame m #[(.ref a1)] 3 = mkF m 0 #[rv a1, uu, uu] [] := by first | (simp [entryFrame, mkF, argsToLocals, Value.category, iv, rv, jv, nv, uu, sd]; done) | rfl
theorem d53_0 : decode jdk_68_method_26_code 0 = .ok (.aload_n 0, 1) := by decide +kernel
theorem d53_1 : decode jdk_68_method_26_code 1 = .ok (.aload_n 0, 1) := by decide +kernel
theorem d53_2 : decode jdk_68_method_26_code 2 = .ok (.getfield 79, 3) := by decide +kernel
theorem d53_5 : decode jdk_68_method_26_code 5 = .ok (.iconst 4, 1) := by decide +kernel
theorem d53_6 : decode jdk_68_method_26_code 6 = .ok (.iadd, 1) := by decide +kernel
theorem d53_7 : decode jdk_68_method_26_code 7 = .ok (.invokevirtual 100, 3) := by decide +kernel
theorem d53_10 : decode jdk_68_method_26_code 10 = .ok (.aload_n 0, 1) := by decide +kernel
theorem d53_11 : decode jdk_68_method_26_code 11 = .ok (.getfield 79, 3) := by decide +kernel
theorem d53_14 : decode jdk_68_method_26_code 14 = .ok (.istore_n 1, 1) := by decide +kernel
theorem d53_15 : decode jdk_68_method_26_code 15 = .ok (.aload_n 0, 1) := by decide +kernel
theorem d53_16 : decode jdk_68_method_26_code 16 = .ok (.getfield 15, 3) := by decide +kernel
theorem d53_19 : decode jdk_68_method_26_code 19 = .ok (.astore_n 2, 1) := by decide +kernel
theorem d53_20 : decode jdk_68_method_26_code 20 = .ok (.aload_n 0, 1) := by decide +kernel
theorem d53_21 : decode jdk_68_method_26_code 21 = .ok (.invokevirtual 83, 3) := by decide +kernel
theorem d53_24 : decode jdk_68_method_26_code 24 = .ok (.ifCond .eq 38, 3) := by decide +kernel
theorem d53_27 : decode jdk_68_method_26_code 27 = .ok (.aload_n 2, 1) := by decide +kernel
theorem d53_28 : decode jdk_68_method_26_code 28 = .ok (.iload_n 1, 1) := by decide +kernel
theorem d53_29 : decode jdk_68_method_26_code 29 = .ok (.iinc 1 1, 3) := by decide +kernel
theorem d53_32 : decode jdk_68_method_26_code 32 = .ok (.bipush 110, 2) := by decide +kernel
theorem d53_34 : decode jdk_68_method_26_code 34 = .ok (.bastore, 1) := by decide +kernel
theorem d53_35 : decode jdk_68_method_26_code 35 = .ok (.aload_n 2, 1) := by decide +kernel
theorem d53_36 : decode jdk_68_method_26_code 36 = .ok (.iload_n 1, 1) := by decide +kernel
theorem d53_37 : decode jdk_68_method_26_code 37 = .ok (.iinc 1 1, 3) := by decide +kernel
theorem d53_40 : decode jdk_68_method_26_code 40 = .ok (.bipush 117, 2) := by decide +kernel
theorem d53_42 : decode jdk_68_method_26_code 42 = .ok (.bastore, 1) := by decide +kernel
theorem d53_43 : decode jdk_68_method_26_code 43 = .ok (.aload_n 2, 1) := by decide +kernel
theorem d53_44 : decode jdk_68_method_26_code 44 = .ok (.iload_n 1, 1) := by decide +kernel
theorem d53_45 : decode jdk_68_method_26_code 45 = .ok (.iinc 1 1, 3) := by decide +kernel
theorem d53_48 : decode jdk_68_method_26_code 48 = .ok (.bipush 108, 2) := by decide +kernel
theorem d53_50 : decode jdk_68_method_26_code 50 = .ok (.bastore, 1) := by decide +kernel
theorem d53_51 : decode jdk_68_method_26_code 51 = .ok (.aload_n 2, 1) := by decide +kernel
theorem d53_52 : decode jdk_68_method_26_code 52 = .ok (.iload_n 1, 1) := by decide +kernel
theorem d53_53 : decode jdk_68_method_26_code 53 = .ok (.iinc 1 1, 3) := by decide +kernel
theorem d53_56 : decode jdk_68_method_26_code 56 = .ok (.bipush 108, 2) := by decide +kernel
theorem d53_58 : decode jdk_68_method_26_code 58 = .ok (.bastore, 1) := by decide +kernel
theorem d53_59 : decode jdk_68_method_26_code 59 = .ok (.goto 17, 3) := by decide +kernel
theorem d53_76 : decode jdk_68_method_26_code 76 = .ok (.aload_n 0, 1) := by decide +kernel
theorem d53_77 : decode jdk_68_method_26_code 77 = .ok (.iload_n 1, 1) := by decide +kernel
theorem d53_78 : decode jdk_68_method_26_code 78 = .ok (.putfield 79, 3) := by decide +kernel
theorem d53_81 : decode jdk_68_method_26_code 81 = .ok (.aload_n 0, 1) := by decide +kernel
theorem d53_82 : decode jdk_68_method_26_code 82 = .ok (.areturn, 1) := by decide +kernel
def Q53 (Z : State) (o1 : Addr) (o2 : Addr) (kd1 : ClassId) (c1 : Nat) (l1 : List Int32) (cs1 : Int32) (h0 : Heap) (n0 : Nat) (v : Option Value) (h : Heap) (L : List Loc) : Prop := ∃ (o3 : Addr) (kd3 : ClassId) (c3 : Nat), v = some (.ref o1) ∧ Fr n0 L ∧ (o3 = o2 ∨ h0.size ≤ o3) ∧ Keep h0 h [o1, o2] ∧ Fld Z h o1 "java/lang/AbstractStringBuilder" "value" "[B" (.ref o3) ∧ Fld Z h o1 "java/lang/AbstractStringBuilder" "coder" "B" (.int 0) ∧ Fld Z h o1 "java/lang/AbstractStringBuilder" "count" "I" (.int (Int32.ofNat (l1 ++ ([110, 117, 108, 108] : List Int32)).length)) ∧ Arv Z h o3 kd3 .byte (Int32.ofNat c3) ((l1 ++ ([110, 117, 108, 108] : List Int32)).map Value.int) (.int 0) ∧ Exa Z h o3 "[B" ∧ c3 ≤ 90 ∧ (l1 ++ ([110, 117, 108, 108] : List Int32)).length ≤ c3
abbrev y53 : MethodName := (⟨"java/lang/AbstractStringBuilder", "appendNull", "()Ljava/lang/AbstractStringBuilder;"⟩ : MethodName)
theorem rm53 {o1 o2 : Addr} {kd1 : ClassId} {c1 : Nat} {l1 : List Int32} {cs1 : Int32} (hw : OwnW a0 Z) (Z0 : n0 ≤ h0.size) (F0 : Exa Z h0 o1 "java/lang/StringBuilder") (F1 : Fld Z h0 o1 "java/lang/AbstractStringBuilder" "value" "[B" (.ref o2)) (F2 : Fld Z h0 o1 "java/lang/AbstractStringBuilder" "coder" "B" (.int 0)) (F3 : Fld Z h0 o1 "java/lang/AbstractStringBuilder" "count" "I" (.int (Int32.ofNat l1.length))) (F4 : Arv Z h0 o2 kd1 .byte (Int32.ofNat c1) (l1.map Value.int) (.int 0)) (F5 : Exa Z h0 o2 "[B") (F6 : OSc Z h0 cs1) (gn_o1 : n0 ≤ o1) (gn_o2 : n0 ≤ o2) (hcs : ¬ cs1 = (0 : Int32)) (hc : c1 ≤ 90) (hll : l1.length ≤ c1) (hm : l1.length + 4 ≤ 45) (ne_o1_o2 : o1 ≠ o2) : OwnMF l Z y53 jdk_68_method_26_code 3 (some (.object "java/lang/AbstractStringBuilder")) ws ⟨4, 1, 90, 62⟩ #[(.ref o1)] h0 (Q53 Z o1 o2 kd1 c1 l1 cs1 h0 n0) := by
  refine bo (plainFor_of_name pn_12) ?_
  intro p e s m below meth c T0 G C hnm hnamed X0 e0 K
  have N0 := Fr.nil n0
  refine Goes.to (congrArg T0.setTop (ef_53r m o1)) ?_
  have K00 := Keep.refl h0 [o1, o2]
  refine g_aloadN C X0 d53_0 1 rfl rfl ?_
  refine g_aloadN C X0 d53_1 2 rfl rfl ?_
  refine g_getF C X0 (w_100 hw) Via.refl e0 F3 d53_2 5 (fun T1 X1 e1 => ?_)
  refine g_iconst C X1 d53_5 6 (v := 4) rfl ?_
  refine g_iadd C X1 d53_6 7 ?_
  refine g_callV C X1 (w_102 hw) (declares_of (w_103 hw) (w_106 hw)) (notFace_of_selects (args := #[]) (mvT C.2.1 (w_105 hw))) (w_105 hw) (w_103 hw) (w_106 hw) (w_72 hw) F0 d53_7 [(.int ((Int32.ofNat l1.length) + (4 : Int32)))] [] 0 (rm17 hw Z0 F0 F1 F2 F3 F4 F5 gn_o1 (i_add _ 4).symm hm hc hll ne_o1_o2) pd_1 e1 10 (fun u2 T2 L2 X2 hQ2 => ?_)
  obtain ⟨o32, kd32, c32, rfl, Nq2, szo32, Kq2, q2_0, q2_1, q2_2, q2_3, q2_4, p2_mc, p2_c90⟩ := hQ2
  have N2 := Fr.app N0 Nq2
  have n3 : o1 ≠ o32 := alt_ne szo32 ne_o1_o2 F0.lt
  have f4 := F0.keep Kq2
  have f5 := Sta.keepN F6 Kq2 (allS (Exa.ns F0) all0)
  have gn_o32 : n0 ≤ o32 := alt_born szo32 gn_o2 Z0
  have Z2 := Nat.le_trans Z0 Kq2.1
  have al_o32 := alt_lift szo32 K00.1
  have K2 := K00.trans Kq2 (allS (Or.inl (List.mem_of_getElem? (i := 0) rfl)) all0)
  refine ret0 ?_
  refine g_aloadN C X2 d53_10 11 rfl rfl ?_
  refine g_getF C X2 (w_100 hw) Via.refl rfl q2_2 d53_11 14 (fun T6 X6 e6 => ?_)
  refine g_istoreN C X6 d53_14 15 (w := (Int32.ofNat l1.length)) rfl (ls' := #[rv o1, iv (Int32.ofNat l1.length), uu]) rfl ?_
  refine g_aloadN C X6 d53_15 16 rfl rfl ?_
  refine g_getF C X6 (w_76 hw) Via.refl e6 q2_0 d53_16 19 (fun T7 X7 e7 => ?_)
  refine g_astoreN C X7 d53_19 20 rfl (ls' := #[rv o1, iv (Int32.ofNat l1.length), rv o32]) rfl ?_
  refine g_aloadN C X7 d53_20 21 rfl rfl ?_
  refine g_callV0 C X7 (b_9 hw) f4 d53_21 [] [] 0 (rm24_b hw Z2 q2_1 f5 hcs) N2 pd_12 e7 24 (fun T8 _ X8 N8 e8 => ?_)
  refine g_if_eq C X8 d53_24 62 27 (fun hc24 => absurd hc24 (by decide)) (fun hc24 => ?_)
  refine g_aloadN C X8 d53_27 28 rfl rfl ?_
  refine g_iloadN C X8 d53_28 29 rfl ?_
  refine g_iinc C X8 d53_29 32 rfl (w := (Int32.ofNat (l1.length + 1))) (i_inc _) (ls' := #[rv o1, iv (Int32.ofNat (l1.length + 1)), rv o32]) rfl ?_
  refine g_bipush C X8 d53_32 34 (v := 110) rfl ?_
  have fb0 := q2_3.pad (pad_rep (l1.map Value.int) (.int 0) 1)
  refine g_bastore C X8 (i := l1.length) e8 fb0 (set_in rfl rfl (by have := p2_mc; omega) (Nat.le_trans p2_c90 (by decide))) (set_nat rfl (by have := p2_mc; have := p2_c90; omega)) (set_lt (by simp)) d53_34 35 (fun T9 h9 X9 e9 W9 A9 => ?_)
  have f10 := f4.wr W9
  have f12 := q2_0.other W9 (Or.inl n3)
  have f13 := q2_1.other W9 (Or.inl n3)
  have f14 := q2_2.other W9 (Or.inl n3)
  have f15 := q2_4.wr W9
  have f16 : Arv Z h9 o32 kd32 .byte (Int32.ofNat c32) ((l1 ++ ([110] : List Int32)).map Value.int) (.int 0) := (show (l1.map Value.int ++ List.replicate 1 (Value.int 0)).set l1.length _ = (l1 ++ ([110] : List Int32)).map Value.int from (set_app (y := 110) (by simp) (narb 110)).trans (by simp)) ▸ A9
  have N9 := Fr.snoc X9 N8 gn_o32
  have K9 := K2.wr W9 (alt_in al_o32 (List.mem_of_getElem? (i := 1) rfl))
  refine g_aloadN C X9 d53_35 36 rfl rfl ?_
  refine g_iloadN C X9 d53_36 37 rfl ?_
  refine g_iinc C X9 d53_37 40 rfl (w := (Int32.ofNat (l1.length + 2))) (i_inc _) (ls' := #[rv o1, iv (Int32.ofNat (l1.length + 2)), rv o32]) rfl ?_
  refine g_bipush C X9 d53_40 42 (v := 117) rfl ?_
  have fb1 := f16.pad (pad_rep ((l1 ++ ([110] : List Int32)).map Value.int) (.int 0) 1)
  refine g_bastore C X9 (i := (l1.length + 1)) e9 fb1 (set_in rfl rfl (by have := p2_mc; omega) (Nat.le_trans p2_c90 (by decide))) (set_nat rfl (by have := p2_mc; have := p2_c90; omega)) (set_lt (by simp)) d53_42 43 (fun T17 h17 X17 e17 W17 A17 => ?_)
  have f18 := f10.wr W17
  have f20 := f12.other W17 (Or.inl n3)
  have f21 := f13.other W17 (Or.inl n3)
  have f22 := f14.other W17 (Or.inl n3)
  have f23 := f15.wr W17
  have f24 : Arv Z h17 o32 kd32 .byte (Int32.ofNat c32) ((l1 ++ ([110, 117] : List Int32)).map Value.int) (.int 0) := (show ((l1 ++ ([110] : List Int32)).map Value.int ++ List.replicate 1 (Value.int 0)).set (l1.length + 1) _ = (l1 ++ ([110, 117] : List Int32)).map Value.int from (set_app (y := 117) (by simp) (narb 117)).trans (by simp)) ▸ A17
  have N17 := Fr.snoc X17 N9 gn_o32
  have K17 := K9.wr W17 (alt_in al_o32 (List.mem_of_getElem? (i := 1) rfl))
  refine g_aloadN C X17 d53_43 44 rfl rfl ?_
  refine g_iloadN C X17 d53_44 45 rfl ?_
  refine g_iinc C X17 d53_45 48 rfl (w := (Int32.ofNat (l1.length + 3))) (i_inc _) (ls' := #[rv o1, iv (Int32.ofNat (l1.length + 3)), rv o32]) rfl ?_
  refine g_bipush C X17 d53_48 50 (v := 108) rfl ?_
  have fb2 := f24.pad (pad_rep ((l1 ++ ([110, 117] : List Int32)).map Value.int) (.int 0) 1)
  refine g_bastore C X17 (i := (l1.length + 2)) e17 fb2 (set_in rfl rfl (by have := p2_mc; omega) (Nat.le_trans p2_c90 (by decide))) (set_nat rfl (by have := p2_mc; have := p2_c90; omega)) (set_lt (by simp)) d53_50 51 (fun T25 h25 X25 e25 W25 A25 => ?_)
  have f26 := f18.wr W25
  have f28 := f20.other W25 (Or.inl n3)
  have f29 := f21.other W25 (Or.inl n3)
  have f30 := f22.other W25 (Or.inl n3)
  have f31 := f23.wr W25
  have f32 : Arv Z h25 o32 kd32 .byte (Int32.ofNat c32) ((l1 ++ ([110, 117, 108] : List Int32)).map Value.int) (.int 0) := (show ((l1 ++ ([110, 117] : List Int32)).map Value.int ++ List.replicate 1 (Value.int 0)).set (l1.length + 2) _ = (l1 ++ ([110, 117, 108] : List Int32)).map Value.int from (set_app (y := 108) (by simp) (narb 108)).trans (by simp)) ▸ A25
  have N25 := Fr.snoc X25 N17 gn_o32
  have K25 := K17.wr W25 (alt_in al_o32 (List.mem_of_getElem? (i := 1) rfl))
  refine g_aloadN C X25 d53_51 52 rfl rfl ?_
  refine g_iloadN C X25 d53_52 53 rfl ?_
  refine g_iinc C X25 d53_53 56 rfl (w := (Int32.ofNat (l1.length + 4))) (i_inc _) (ls' := #[rv o1, iv (Int32.ofNat (l1.length + 4)), rv o32]) rfl ?_
  refine g_bipush C X25 d53_56 58 (v := 108) rfl ?_
  have fb3 := f32.pad (pad_rep ((l1 ++ ([110, 117, 108] : List Int32)).map Value.int) (.int 0) 1)
  refine g_bastore C X25 (i := (l1.length + 3)) e25 fb3 (set_in rfl rfl (by have := p2_mc; omega) (Nat.le_trans p2_c90 (by decide))) (set_nat rfl (by have := p2_mc; have := p2_c90; omega)) (set_lt (by simp)) d53_58 59 (fun T33 h33 X33 e33 W33 A33 => ?_)
  have f34 := f26.wr W33
  have f36 := f28.other W33 (Or.inl n3)
  have f37 := f29.other W33 (Or.inl n3)
  have f38 := f30.other W33 (Or.inl n3)
  have f39 := f31.wr W33
  have f40 : Arv Z h33 o32 kd32 .byte (Int32.ofNat c32) ((l1 ++ ([110, 117, 108, 108] : List Int32)).map Value.int) (.int 0) := (show ((l1 ++ ([110, 117, 108] : List Int32)).map Value.int ++ List.replicate 1 (Value.int 0)).set (l1.length + 3) _ = (l1 ++ ([110, 117, 108, 108] : List Int32)).map Value.int from (set_app (y := 108) (by simp) (narb 108)).trans (by simp)) ▸ A33
  have N33 := Fr.snoc X33 N25 gn_o32
  have K33 := K25.wr W33 (alt_in al_o32 (List.mem_of_getElem? (i := 1) rfl))
  refine g_goto C X33 d53_59 76 ?_
  refine g_aloadN C X33 d53_76 77 rfl rfl ?_
  refine g_iloadN C X33 d53_77 78 rfl ?_
  refine g_putF C X33 (w_100 hw) Via.refl e33 f38 f34 (Or.inl (w_101 hw)) (w_63 hw) (ty := .int) (by decide) rfl rfl d53_78 81 (fun T41 h41 X41 e41 W41 => ?_)
  have f44 := f36.other W41 (Or.inr (slot_ne (Or.inl (w_77 hw)) (Or.inl (w_101 hw)) (by decide) (t := (.array .byte)) (t' := .int) (by decide) (by decide)))
  have f45 := f37.other W41 (Or.inr (slot_ne (Or.inl (w_79 hw)) (Or.inl (w_101 hw)) (by decide) (t := .byte) (t' := .int) (by decide) (by decide)))
  have f46 := f38.same W41
  have f47 := f39.wr W41
  have f48 := f40.other W41 (Ne.symm n3)
  have N41 := Fr.snoc X41 N33 gn_o1
  have K41 := K33.wr W41 (Or.inl (List.mem_of_getElem? (i := 0) rfl))
  have f49 : Fld Z h41 o1 "java/lang/AbstractStringBuilder" "count" "I" (.int (Int32.ofNat (l1 ++ ([110, 117, 108, 108] : List Int32)).length)) := by rw [List.length_append]; exact f46
  refine g_aloadN C X41 d53_81 82 rfl rfl ?_
  exact g_retA C X41 K rfl rfl rfl d53_82 (by decide) (by decide) e41 ⟨o32, kd32, c32, rfl, N41, al_o32, K41, f44, f45, f49, f48, f47, p2_c90, (by rw [List.length_append]; exact p2_mc)⟩
theorem ef_14rn (m : MethodId) (a1 : Addr) : entryFrame m #[(.ref a1), .null] 3 = mkF m 0 #[rv a1, nv, uu] [] := by first | (simp [entryFrame, mkF, argsToLocals, Value.category, iv, rv, jv, nv, uu, sd]; done) | rfl
theorem d14_4 : decode jdk_68_method_22_code 4 = .ok (.aload_n 0, 1) := by decide +kernel
theorem d14_5 : decode jdk_68_method_22_code 5 = .ok (.invokevirtual 204, 3) := by decide +kernel
theorem w_273 (hw : OwnW a0 Z) : Cond.before (.code ⟨"java/lang/AbstractStringBuilder", "appendNull", "()Ljava/lang/AbstractStringBuilder;"⟩ jdk_68_method_26_code (3 : Nat) (Option.some (Jvm.ClassFile.FieldType.object "java/lang/AbstractStringBuilder"))) a0 Z = true := wA hw 273 rfl
theorem w_269 (hw : OwnW a0 Z) : Cond.before (.methodLink "java/lang/AbstractStringBuilder" (204 : Nat) ⟨"java/lang/AbstractStringBuilder", "appendNull", "()Ljava/lang/AbstractStringBuilder;"⟩) a0 Z = true := wA hw 269 rfl
theorem pd_20 : parseMethodDescriptor "()Ljava/lang/AbstractStringBuilder;" = some ⟨[], some (.object "java/lang/AbstractStringBuilder")⟩ := by decide +kernel
theorem w_272 (hw : OwnW a0 Z) : Cond.before (.selects "java/lang/StringBuilder" ⟨"java/lang/AbstractStringBuilder", "appendNull", "()Ljava/lang/AbstractStringBuilder;"⟩ ⟨"java/lang/AbstractStringBuilder", "appendNull", "()Ljava/lang/AbstractStringBuilder;"⟩) a0 Z = true := wA hw 272 rfl
theorem w_270 (hw : OwnW a0 Z) : Cond.before (.instanceMethod ⟨"java/lang/AbstractStringBuilder", "appendNull", "()Ljava/lang/AbstractStringBuilder;"⟩) a0 Z = true := wA hw 270 rfl
theorem d14_8 : decode jdk_68_method_22_code 8 = .ok (.areturn, 1) := by decide +kernel
def Q14_n (Z : State) (o1 : Addr) (o2 : Addr) (kd1 : ClassId) (c1 : Nat) (l1 : List Int32) (cs1 : Int32) (h0 : Heap) (n0 : Nat) (v : Option Value) (h : Heap) (L : List Loc) : Prop := ∃ (o3 : Addr) (kd3 : ClassId) (c3 : Nat), v = some (.ref o1) ∧ Fr n0 L ∧ (o3 = o2 ∨ h0.size ≤ o3) ∧ Keep h0 h [o1, o2] ∧ Fld Z h o1 "java/lang/AbstractStringBuilder" "value" "[B" (.ref o3) ∧ Fld Z h o1 "java/lang/AbstractStringBuilder" "coder" "B" (.int 0) ∧ Fld Z h o1 "java/lang/AbstractStringBuilder" "count" "I" (.int (Int32.ofNat (l1 ++ ([110, 117, 108, 108] : List Int32)).length)) ∧ Arv Z h o3 kd3 .byte (Int32.ofNat c3) ((l1 ++ ([110, 117, 108, 108] : List Int32)).map Value.int) (.int 0) ∧ Exa Z h o3 "[B" ∧ c3 ≤ 90 ∧ (l1 ++ ([110, 117, 108, 108] : List Int32)).length ≤ c3
theorem rm14_n {o1 o2 : Addr} {kd1 : ClassId} {c1 : Nat} {l1 : List Int32} {cs1 : Int32} (hw : OwnW a0 Z) (Z0 : n0 ≤ h0.size) (F0 : Exa Z h0 o1 "java/lang/StringBuilder") (F1 : Fld Z h0 o1 "java/lang/AbstractStringBuilder" "value" "[B" (.ref o2)) (F2 : Fld Z h0 o1 "java/lang/AbstractStringBuilder" "coder" "B" (.int 0)) (F3 : Fld Z h0 o1 "java/lang/AbstractStringBuilder" "count" "I" (.int (Int32.ofNat l1.length))) (F4 : Arv Z h0 o2 kd1 .byte (Int32.ofNat c1) (l1.map Value.int) (.int 0)) (F5 : Exa Z h0 o2 "[B") (F6 : OSc Z h0 cs1) (gn_o1 : n0 ≤ o1) (gn_o2 : n0 ≤ o2) (hcs : ¬ cs1 = (0 : Int32)) (hc : c1 ≤ 90) (hll : l1.length ≤ c1) (hm : l1.length + 4 ≤ 45) (ne_o1_o2 : o1 ≠ o2) : OwnMF l Z y14 jdk_68_method_22_code 3 (some (.object "java/lang/AbstractStringBuilder")) ws ⟨5, 1, 90, 76⟩ #[(.ref o1), .null] h0 (Q14_n Z o1 o2 kd1 c1 l1 cs1 h0 n0) := by
  refine bo (plainFor_of_name pn_12) ?_
  intro p e s m below meth c T0 G C hnm hnamed X0 e0 K
  have N0 := Fr.nil n0
  refine Goes.to (congrArg T0.setTop (ef_14rn m o1)) ?_
  have K00 := Keep.refl h0 [o1, o2]
  refine g_aloadN C X0 d14_0 1 rfl rfl ?_
  refine g_ifnonnullN C X0 d14_1 4 ?_
  refine g_aloadN C X0 d14_4 5 rfl rfl ?_
  refine g_callV C X0 (w_269 hw) (declares_of (w_270 hw) (w_273 hw)) (notFace_of_selects (args := #[]) (mvT C.2.1 (w_272 hw))) (w_272 hw) (w_270 hw) (w_273 hw) (w_72 hw) F0 d14_5 [] [] 0 (rm53 hw Z0 F0 F1 F2 F3 F4 F5 F6 gn_o1 gn_o2 hcs hc hll hm ne_o1_o2) pd_20 e0 8 (fun u1 T1 L1 X1 hQ1 => ?_)
  obtain ⟨o31, kd31, c31, rfl, Nq1, szo31, Kq1, q1_0, q1_1, q1_2, q1_3, q1_4, p1_c90, p1_ll⟩ := hQ1
  have N1 := Fr.app N0 Nq1
  have al_o31 := alt_lift szo31 K00.1
  have K1 := K00.trans Kq1 (allS (Or.inl (List.mem_of_getElem? (i := 0) rfl)) (allS (Or.inl (List.mem_of_getElem? (i := 1) rfl)) all0))
  refine ret1 ?_
  exact g_retA C X1 K rfl rfl rfl d14_8 (by decide) (by decide) rfl ⟨o31, kd31, c31, rfl, N1, al_o31, K1, q1_0, q1_1, q1_2, q1_3, q1_4, p1_c90, p1_ll⟩
theorem ef_13rn (m : MethodId) (a1 : Addr) : entryFrame m #[(.ref a1), .null] 2 = mkF m 0 #[rv a1, nv] [] := by first | (simp [entryFrame, mkF, argsToLocals, Value.category, iv, rv, jv, nv, uu, sd]; done) | rfl
def Q13_n (Z : State) (o1 : Addr) (o2 : Addr) (kd1 : ClassId) (c1 : Nat) (l1 : List Int32) (cs1 : Int32) (h0 : Heap) (n0 : Nat) (v : Option Value) (h : Heap) (L : List Loc) : Prop := ∃ (o3 : Addr) (kd3 : ClassId) (c3 : Nat), v = some (.ref o1) ∧ Fr n0 L ∧ (o3 = o2 ∨ h0.size ≤ o3) ∧ Keep h0 h [o1, o2] ∧ Fld Z h o1 "java/lang/AbstractStringBuilder" "value" "[B" (.ref o3) ∧ Fld Z h o1 "java/lang/AbstractStringBuilder" "coder" "B" (.int 0) ∧ Fld Z h o1 "java/lang/AbstractStringBuilder" "count" "I" (.int (Int32.ofNat (l1 ++ ([110, 117, 108, 108] : List Int32)).length)) ∧ Arv Z h o3 kd3 .byte (Int32.ofNat c3) ((l1 ++ ([110, 117, 108, 108] : List Int32)).map Value.int) (.int 0) ∧ Exa Z h o3 "[B" ∧ c3 ≤ 90 ∧ (l1 ++ ([110, 117, 108, 108] : List Int32)).length ≤ c3
theorem rm13_n {o1 o2 : Addr} {kd1 : ClassId} {c1 : Nat} {l1 : List Int32} {cs1 : Int32} (hw : OwnW a0 Z) (Z0 : n0 ≤ h0.size) (F0 : Exa Z h0 o1 "java/lang/StringBuilder") (F1 : Fld Z h0 o1 "java/lang/AbstractStringBuilder" "value" "[B" (.ref o2)) (F2 : Fld Z h0 o1 "java/lang/AbstractStringBuilder" "coder" "B" (.int 0)) (F3 : Fld Z h0 o1 "java/lang/AbstractStringBuilder" "count" "I" (.int (Int32.ofNat l1.length))) (F4 : Arv Z h0 o2 kd1 .byte (Int32.ofNat c1) (l1.map Value.int) (.int 0)) (F5 : Exa Z h0 o2 "[B") (F6 : OSc Z h0 cs1) (gn_o1 : n0 ≤ o1) (gn_o2 : n0 ≤ o2) (hcs : ¬ cs1 = (0 : Int32)) (hc : c1 ≤ 90) (hll : l1.length ≤ c1) (hm : l1.length + 4 ≤ 45) (ne_o1_o2 : o1 ≠ o2) : OwnMF l Z y13 jdk_67_method_7_code 2 (some (.object "java/lang/StringBuilder")) ws ⟨6, 1, 90, 90⟩ #[(.ref o1), .null] h0 (Q13_n Z o1 o2 kd1 c1 l1 cs1 h0 n0) := by
  refine bo (plainFor_of_name pn_11) ?_
  intro p e s m below meth c T0 G C hnm hnamed X0 e0 K
  have N0 := Fr.nil n0
  refine Goes.to (congrArg T0.setTop (ef_13rn m o1)) ?_
  have K00 := Keep.refl h0 [o1, o2]
  refine g_aloadN C X0 d13_0 1 rfl rfl ?_
  refine g_aloadN C X0 d13_1 2 rfl rfl ?_
  refine g_callU C X0 (w_85 hw) (w_88 hw) (w_86 hw) (w_87 hw) (w_105 hw) rfl (w_89 hw) (w_72 hw) (by decide) F0 d13_2 [.null] [] 0 (rm14_n hw Z0 F0 F1 F2 F3 F4 F5 F6 gn_o1 gn_o2 hcs hc hll hm ne_o1_o2) pd_11 e0 5 (fun u1 T1 L1 X1 hQ1 => ?_)
  obtain ⟨o31, kd31, c31, rfl, Nq1, szo31, Kq1, q1_0, q1_1, q1_2, q1_3, q1_4, p1_c90, p1_ll⟩ := hQ1
  have N1 := Fr.app N0 Nq1
  have al_o31 := alt_lift szo31 K00.1
  have K1 := K00.trans Kq1 (allS (Or.inl (List.mem_of_getElem? (i := 0) rfl)) (allS (Or.inl (List.mem_of_getElem? (i := 1) rfl)) all0))
  refine ret1 ?_
  refine g_pop C X1 d13_5 6 rfl ?_
  refine g_aloadN C X1 d13_6 7 rfl rfl ?_
  exact g_retA C X1 K rfl rfl rfl d13_7 (by decide) (by decide) rfl ⟨o31, kd31, c31, rfl, N1, al_o31, K1, q1_0, q1_1, q1_2, q1_3, q1_4, p1_c90, p1_ll⟩
theorem ef_8r (m : MethodId) (a1 : Addr) : entryFrame m #[(.ref a1)] 1 = mkF m 0 #[rv a1] [] := by first | (simp [entryFrame, mkF, argsToLocals, Value.category, iv, rv, jv, nv, uu, sd]; done) | rfl
theorem d8_0 : decode prog_7_method_4_code 0 = .ok (.aload_n 0, 1) := by decide +kernel
theorem d8_1 : decode prog_7_method_4_code 1 = .ok (.getfield 13, 3) := by decide +kernel
theorem d8_4 : decode prog_7_method_4_code 4 = .ok (.ifCond .ne 10, 3) := by decide +kernel
theorem d8_7 : decode prog_7_method_4_code 7 = .ok (.aload_n 0, 1) := by decide +kernel
theorem d8_8 : decode prog_7_method_4_code 8 = .ok (.getfield 7, 3) := by decide +kernel
theorem d8_11 : decode prog_7_method_4_code 11 = .ok (.goto 44, 3) := by decide +kernel
theorem d8_55 : decode prog_7_method_4_code 55 = .ok (.areturn, 1) := by decide +kernel
abbrev y8 : MethodName := (⟨"com/example/mortise/mortise/core/Problem", "location", "()Ljava/lang/String;"⟩ : MethodName)
theorem rm8_z {o1 o5 : Addr} {x1 x2 : Int32} (hw : OwnW a0 Z) (Z0 : n0 ≤ h0.size) (F0 : Fld Z h0 o1 "com/example/mortise/mortise/core/Problem" "path" "Ljava/lang/String;" (.ref o5)) (F1 : Fld Z h0 o1 "com/example/mortise/mortise/core/Problem" "line" "I" (.int x1)) (F2 : Fld Z h0 o1 "com/example/mortise/mortise/core/Problem" "column" "I" (.int x2)) (hz : x1 = (0 : Int32)) : OwnMF l Z y8 prog_7_method_4_code 1 (some (.object "java/lang/String")) ws ⟨0, 0, 0, 0⟩ #[(.ref o1)] h0 (OwnQ (some (.ref o5)) h0 n0) := by
  refine bo (plainFor_of_name pn_6) ?_
  intro p e s m below meth c T0 G C hnm hnamed X0 e0 K
  have N0 := Fr.nil n0
  refine Goes.to (congrArg T0.setTop (ef_8r m o1)) ?_
  refine g_aloadN C X0 d8_0 1 rfl rfl ?_
  refine g_getF C X0 (w_40 hw) Via.refl e0 F1 d8_1 4 (fun T1 X1 e1 => ?_)
  refine g_if_ne C X1 d8_4 14 7 (fun hc4 => absurd hz hc4) (fun hc4 => ?_)
  refine g_aloadN C X1 d8_7 8 rfl rfl ?_
  refine g_getF C X1 (w_38 hw) Via.refl e1 F0 d8_8 11 (fun T2 X2 e2 => ?_)
  refine g_goto C X2 d8_11 55 ?_
  exact g_retA C X2 K rfl rfl rfl d8_55 (by decide) (by decide) e2 ⟨rfl, N0, rfl⟩
theorem d8_14 : decode prog_7_method_4_code 14 = .ok (.new 26, 3) := by decide +kernel
theorem w_62 (hw : OwnW a0 Z) : Cond.before (.classLink "com/example/mortise/mortise/core/Problem" (26 : Nat) "java/lang/StringBuilder") a0 Z = true := wA hw 62 rfl
theorem d8_17 : decode prog_7_method_4_code 17 = .ok (.dup, 1) := by decide +kernel
theorem d8_18 : decode prog_7_method_4_code 18 = .ok (.invokespecial 28, 3) := by decide +kernel
theorem w_67 (hw : OwnW a0 Z) : Cond.before (.code ⟨"java/lang/StringBuilder", "<init>", "()V"⟩ jdk_67_method_1_code (1 : Nat) (Option.none : Option Jvm.ClassFile.FieldType)) a0 Z = true := wA hw 67 rfl
theorem w_65 (hw : OwnW a0 Z) : Cond.before (.methodLink "com/example/mortise/mortise/core/Problem" (28 : Nat) ⟨"java/lang/StringBuilder", "<init>", "()V"⟩) a0 Z = true := wA hw 65 rfl
theorem w_66 (hw : OwnW a0 Z) : Cond.before (.instanceMethod ⟨"java/lang/StringBuilder", "<init>", "()V"⟩) a0 Z = true := wA hw 66 rfl
theorem d8_21 : decode prog_7_method_4_code 21 = .ok (.aload_n 0, 1) := by decide +kernel
theorem d8_22 : decode prog_7_method_4_code 22 = .ok (.getfield 7, 3) := by decide +kernel
theorem d8_25 : decode prog_7_method_4_code 25 = .ok (.invokevirtual 31, 3) := by decide +kernel
theorem w_84 (hw : OwnW a0 Z) : Cond.before (.code ⟨"java/lang/StringBuilder", "append", "(Ljava/lang/String;)Ljava/lang/StringBuilder;"⟩ jdk_67_method_7_code (2 : Nat) (Option.some (Jvm.ClassFile.FieldType.object "java/lang/StringBuilder"))) a0 Z = true := wA hw 84 rfl
theorem w_80 (hw : OwnW a0 Z) : Cond.before (.methodLink "com/example/mortise/mortise/core/Problem" (31 : Nat) ⟨"java/lang/StringBuilder", "append", "(Ljava/lang/String;)Ljava/lang/StringBuilder;"⟩) a0 Z = true := wA hw 80 rfl
theorem pd_21 : parseMethodDescriptor "(Ljava/lang/String;)Ljava/lang/StringBuilder;" = some ⟨[(.object "java/lang/String")], some (.object "java/lang/StringBuilder")⟩ := by decide +kernel
theorem w_83 (hw : OwnW a0 Z) : Cond.before (.selects "java/lang/StringBuilder" ⟨"java/lang/StringBuilder", "append", "(Ljava/lang/String;)Ljava/lang/StringBuilder;"⟩ ⟨"java/lang/StringBuilder", "append", "(Ljava/lang/String;)Ljava/lang/StringBuilder;"⟩) a0 Z = true := wA hw 83 rfl
theorem w_81 (hw : OwnW a0 Z) : Cond.before (.declares ⟨"java/lang/StringBuilder", "append", "(Ljava/lang/String;)Ljava/lang/StringBuilder;"⟩) a0 Z = true := wA hw 81 rfl
theorem w_82 (hw : OwnW a0 Z) : Cond.before (.instanceMethod ⟨"java/lang/StringBuilder", "append", "(Ljava/lang/String;)Ljava/lang/StringBuilder;"⟩) a0 Z = true := wA hw 82 rfl
theorem d8_28 : decode prog_7_method_4_code 28 = .ok (.ldc 43, 2) := by decide +kernel
theorem strAtoms0 : ∀ a ∈ Bundle.stringAtoms, a ∈ tables_1 := by decide +kernel
theorem strAtoms {Z : State} {a0 : Array Value} (hw : ∀ d ∈ tables_1, d.before a0 Z = true) : ∀ a ∈ Bundle.stringAtoms, a.before a0 Z = true := fun a ha => hw a (strAtoms0 a ha)
theorem d8_30 : decode prog_7_method_4_code 30 = .ok (.invokevirtual 31, 3) := by decide +kernel
theorem d8_33 : decode prog_7_method_4_code 33 = .ok (.aload_n 0, 1) := by decide +kernel
theorem d8_34 : decode prog_7_method_4_code 34 = .ok (.getfield 13, 3) := by decide +kernel
theorem d8_37 : decode prog_7_method_4_code 37 = .ok (.invokevirtual 45, 3) := by decide +kernel
theorem w_132 (hw : OwnW a0 Z) : Cond.before (.code ⟨"java/lang/StringBuilder", "append", "(I)Ljava/lang/StringBuilder;"⟩ jdk_67_method_15_code (2 : Nat) (Option.some (Jvm.ClassFile.FieldType.object "java/lang/StringBuilder"))) a0 Z = true := wA hw 132 rfl
theorem w_128 (hw : OwnW a0 Z) : Cond.before (.methodLink "com/example/mortise/mortise/core/Problem" (45 : Nat) ⟨"java/lang/StringBuilder", "append", "(I)Ljava/lang/StringBuilder;"⟩) a0 Z = true := wA hw 128 rfl
theorem pd_22 : parseMethodDescriptor "(I)Ljava/lang/StringBuilder;" = some ⟨[.int], some (.object "java/lang/StringBuilder")⟩ := by decide +kernel
theorem w_131 (hw : OwnW a0 Z) : Cond.before (.selects "java/lang/StringBuilder" ⟨"java/lang/StringBuilder", "append", "(I)Ljava/lang/StringBuilder;"⟩ ⟨"java/lang/StringBuilder", "append", "(I)Ljava/lang/StringBuilder;"⟩) a0 Z = true := wA hw 131 rfl
theorem w_129 (hw : OwnW a0 Z) : Cond.before (.declares ⟨"java/lang/StringBuilder", "append", "(I)Ljava/lang/StringBuilder;"⟩) a0 Z = true := wA hw 129 rfl
theorem w_130 (hw : OwnW a0 Z) : Cond.before (.instanceMethod ⟨"java/lang/StringBuilder", "append", "(I)Ljava/lang/StringBuilder;"⟩) a0 Z = true := wA hw 130 rfl
theorem d8_40 : decode prog_7_method_4_code 40 = .ok (.ldc 43, 2) := by decide +kernel
theorem d8_42 : decode prog_7_method_4_code 42 = .ok (.invokevirtual 31, 3) := by decide +kernel
theorem d8_45 : decode prog_7_method_4_code 45 = .ok (.aload_n 0, 1) := by decide +kernel
theorem d8_46 : decode prog_7_method_4_code 46 = .ok (.getfield 17, 3) := by decide +kernel
theorem d8_49 : decode prog_7_method_4_code 49 = .ok (.invokevirtual 45, 3) := by decide +kernel
theorem d8_52 : decode prog_7_method_4_code 52 = .ok (.invokevirtual 35, 3) := by decide +kernel
theorem w_154 (hw : OwnW a0 Z) : Cond.before (.code ⟨"java/lang/StringBuilder", "toString", "()Ljava/lang/String;"⟩ jdk_67_method_42_code (1 : Nat) (Option.some (Jvm.ClassFile.FieldType.object "java/lang/String"))) a0 Z = true := wA hw 154 rfl
theorem w_150 (hw : OwnW a0 Z) : Cond.before (.methodLink "com/example/mortise/mortise/core/Problem" (35 : Nat) ⟨"java/lang/StringBuilder", "toString", "()Ljava/lang/String;"⟩) a0 Z = true := wA hw 150 rfl
theorem pd_23 : parseMethodDescriptor "()Ljava/lang/String;" = some ⟨[], some (.object "java/lang/String")⟩ := by decide +kernel
theorem w_153 (hw : OwnW a0 Z) : Cond.before (.selects "java/lang/StringBuilder" ⟨"java/lang/StringBuilder", "toString", "()Ljava/lang/String;"⟩ ⟨"java/lang/StringBuilder", "toString", "()Ljava/lang/String;"⟩) a0 Z = true := wA hw 153 rfl
theorem w_151 (hw : OwnW a0 Z) : Cond.before (.declares ⟨"java/lang/StringBuilder", "toString", "()Ljava/lang/String;"⟩) a0 Z = true := wA hw 151 rfl
theorem w_152 (hw : OwnW a0 Z) : Cond.before (.instanceMethod ⟨"java/lang/StringBuilder", "toString", "()Ljava/lang/String;"⟩) a0 Z = true := wA hw 152 rfl
def Q8_t (Z : State) (o1 : Addr) (o5 : Addr) (o6 : Addr) (kd5 : ClassId) (l5 : List Int32) (x1 : Int32) (x2 : Int32) (o7 : Addr) (o8 : Addr) (kd7 : ClassId) (kd8 : ClassId) (cs1 : Int32) (h0 : Heap) (n0 : Nat) (v : Option Value) (h : Heap) (L : List Loc) : Prop := ∃ (o4 : Addr) (o3 : Addr) (kd3 : ClassId), v = some (.ref o4) ∧ Fr n0 L ∧ h0.size ≤ o4 ∧ h0.size ≤ o3 ∧ Keep h0 h [] ∧ OEs Z h o4 ∧ OFv Z h o4 (.ref o3) ∧ OFc Z h o4 ∧ Arv Z h o3 kd3 .byte (Int32.ofNat ((((((([] : List Int32) ++ l5) ++ ([58] : List Int32)) ++ decI x1) ++ ([58] : List Int32)) ++ decI x2)).length) (((((((([] : List Int32) ++ l5) ++ ([58] : List Int32)) ++ decI x1) ++ ([58] : List Int32)) ++ decI x2)).map Value.int) (.int 0)
theorem rm8_t {o1 o5 o6 o7 o8 : Addr} {kd5 kd7 kd8 : ClassId} {l5 : List Int32} {x1 x2 cs1 : Int32} (hw : OwnW a0 Z) (Z0 : n0 ≤ h0.size) (hEL : EW Z a0 EL) (F0 : Exa Z h0 o1 "com/example/mortise/mortise/core/Problem") (F1 : Fld Z h0 o1 "com/example/mortise/mortise/core/Problem" "path" "Ljava/lang/String;" (.ref o5)) (F2 : Fld Z h0 o1 "com/example/mortise/mortise/core/Problem" "line" "I" (.int x1)) (F3 : Fld Z h0 o1 "com/example/mortise/mortise/core/Problem" "column" "I" (.int x2)) (F4 : OEs Z h0 o5) (F5 : OFv Z h0 o5 (.ref o6)) (F6 : OFc Z h0 o5) (F7 : Arv Z h0 o6 kd5 .byte (Int32.ofNat l5.length) (l5.map Value.int) (.int 0)) (F8 : Sta Z h0 "java/lang/Integer" "DigitOnes" "[B" (.ref o7)) (F9 : Sta Z h0 "java/lang/Integer" "DigitTens" "[B" (.ref o8)) (F10 : Arv Z h0 o7 kd7 .byte (Int32.ofNat 100) (onesL.map Value.int) (.int 0)) (F11 : Arv Z h0 o8 kd8 .byte (Int32.ofNat 100) (tensL.map Value.int) (.int 0)) (F12 : OSc Z h0 cs1) (hcs : ¬ cs1 = (0 : Int32)) (hz : ¬ x1 = (0 : Int32)) (h5 : l5.length ≤ 4) : OwnMFH l Z EL y8 prog_7_method_4_code 1 (some (.object "java/lang/String")) ws ⟨6, 13, 580, 91⟩ #[(.ref o1)] h0 (Q8_t Z o1 o5 o6 kd5 l5 x1 x2 o7 o8 kd7 kd8 cs1 h0 n0) := by
  refine boH (plainFor_of_name pn_6) ?_
  intro p e s m below meth c T0 G C hnm hnamed X0 e0 hh0 hS0 H0_ R0_ K
  have N0 := Fr.nil n0
  refine Goes.to (congrArg T0.setTop (ef_8r m o1)) ?_
  have K00 := Keep.refl h0 []
  refine g_aloadN C X0 d8_0 1 rfl rfl ?_
  refine g_getF C X0 (w_40 hw) Via.refl e0 F2 d8_1 4 (fun T1 X1 e1 => ?_)
  refine g_if_ne C X1 d8_4 14 7 (fun hc4 => ?_) (fun hc4 => absurd hc4 hz)
  refine g_new C X1 (w_62 hw) (w_63 hw) (w_64 hw) e1 d8_14 17 (by decide) (by decide) (fun T2 h2 b2 X2 e2 g2 E2 A2 D2 => ?_)
  have n3 : o1 ≠ b2 := Nat.ne_of_lt (Nat.lt_of_lt_of_eq F0.lt g2.symm)
  have n4 : o5 ≠ b2 := Nat.ne_of_lt (Nat.lt_of_lt_of_eq F4.lt g2.symm)
  have n5 : o6 ≠ b2 := Nat.ne_of_lt (Nat.lt_of_lt_of_eq F7.lt g2.symm)
  have n6 : o7 ≠ b2 := Nat.ne_of_lt (Nat.lt_of_lt_of_eq F10.lt g2.symm)
  have n7 : o8 ≠ b2 := Nat.ne_of_lt (Nat.lt_of_lt_of_eq F11.lt g2.symm)
  have f8 := F0.ext E2
  have f9 := F1.ext E2
  have f10 := F2.ext E2
  have f11 := F3.ext E2
  have f12 := F4.ext E2
  have f13 := F5.ext E2
  have f14 := F6.ext E2
  have f15 := F7.ext E2
  have f16 := F8.ext E2
  have f17 := F9.ext E2
  have f18 := F10.ext E2
  have f19 := F11.ext E2
  have f20 := F12.ext E2
  have gn_b2 : n0 ≤ b2 := Nat.le_trans Z0 (Nat.le_of_eq g2.symm)
  have Z2 := Nat.le_trans Z0 E2.1
  have hk2 := Nat.le_trans (Nat.zero_le _) E2.1
  have H_2 := H0_.ext E2
  have R_2 := R0_.trans (CHr.ext E2 H0_)
  have sz_b2 : h0.size ≤ b2 := Nat.le_trans K00.1 (Nat.le_of_eq g2.symm)
  have K2 := K00.ext E2
  have f21 : Fld Z h2 b2 "java/lang/AbstractStringBuilder" "value" "[B" .null := D2 (Or.inl (w_77 hw)) (ty := (.array .byte)) (by decide)
  have f22 : Fld Z h2 b2 "java/lang/AbstractStringBuilder" "coder" "B" (.int 0) := D2 (Or.inl (w_79 hw)) (ty := .byte) (by decide)
  have f23 : Fld Z h2 b2 "java/lang/AbstractStringBuilder" "count" "I" (.int 0) := D2 (Or.inl (w_101 hw)) (ty := .int) (by decide)
  refine g_dup C X2 d8_17 18 rfl ?_
  refine g_callI C X2 rfl (w_65 hw) (w_66 hw) (w_64 hw) (w_67 hw) d8_18 [] [(.ref b2)] 1 (rm11 hw Z2 A2 f21 f22 f23 f20 gn_b2 hcs) pd_0 e2 21 (fun u24 T24 L24 X24 hQ24 => ?_)
  obtain ⟨o324, kd324, rfl, Nq24, szo324, Kq24, q24_0, q24_1, q24_2, q24_3, q24_4⟩ := hQ24
  have N24 := Fr.app N0 Nq24
  have n25 : b2 ≠ o324 := Nat.ne_of_lt (Nat.lt_of_lt_of_le A2.lt szo324)
  have n26 : o1 ≠ o324 := Nat.ne_of_lt (Nat.lt_of_lt_of_le f8.lt szo324)
  have n27 : o5 ≠ o324 := Nat.ne_of_lt (Nat.lt_of_lt_of_le f12.lt szo324)
  have n28 : o6 ≠ o324 := Nat.ne_of_lt (Nat.lt_of_lt_of_le f15.lt szo324)
  have n29 : o7 ≠ o324 := Nat.ne_of_lt (Nat.lt_of_lt_of_le f18.lt szo324)
  have n30 : o8 ≠ o324 := Nat.ne_of_lt (Nat.lt_of_lt_of_le f19.lt szo324)
  have f31 := f8.keep Kq24
  have f32 := f9.keep Kq24 (ninS n3 nin0)
  have f33 := f10.keep Kq24 (ninS n3 nin0)
  have f34 := f11.keep Kq24 (ninS n3 nin0)
  have f35 := f12.keep Kq24
  have f36 := f13.keep Kq24 (ninS n4 nin0)
  have f37 := f14.keep Kq24 (ninS n4 nin0)
  have f38 := f15.keep Kq24 (ninS n5 nin0)
  have f39 := Sta.keepN f16 Kq24 (allS (Exa.ns A2) all0)
  have f40 := Sta.keepN f17 Kq24 (allS (Exa.ns A2) all0)
  have f41 := f18.keep Kq24 (ninS n6 nin0)
  have f42 := f19.keep Kq24 (ninS n7 nin0)
  have f43 := Sta.keepN f20 Kq24 (allS (Exa.ns A2) all0)
  have f44 := A2.keep Kq24
  have gn_o324 : n0 ≤ o324 := Nat.le_trans Z2 szo324
  have Z24 := Nat.le_trans Z2 Kq24.1
  have hk24 := Nat.le_trans hk2 Kq24.1
  have H_24 := CHv.keep Kq24 (allS (Safe.exa C.2.1.alike A2 (by decide) (by decide)) all0) H_2
  have R_24 := R_2.trans (CHr.keep Kq24 (allS (Safe.exa C.2.1.alike A2 (by decide) (by decide)) all0) H_2)
  have sf_o324_24 := Safe.keep Kq24 (allS (Safe.exa C.2.1.alike A2 (by decide) (by decide)) all0) H_2 (Safe.new szo324)
  have sz_o324 : h0.size ≤ o324 := Nat.le_trans K2.1 szo324
  have K24 := K2.trans Kq24 (allS (Or.inr sz_b2) all0)
  refine ret0 ?_
  refine g_aloadN C X24 d8_21 22 rfl rfl ?_
  refine g_getF C X24 (w_38 hw) Via.refl rfl f32 d8_22 25 (fun T45 X45 e45 => ?_)
  refine g_callV C X45 (w_80 hw) (w_81 hw) (notFace_of_selects (args := #[]) (mvT C.2.1 (w_83 hw))) (w_83 hw) (w_82 hw) (w_84 hw) (w_64 hw) f44 d8_25 [(.ref o5)] [] 0 (rm13 hw Z24 f44 q24_0 q24_1 q24_2 q24_3 q24_4 f35 f36 f37 f38 f43 gn_b2 gn_o324 hcs (by decide) (by decide) (by have q1 := decI_length x1; have q2 := decI_length x2; simp only [List.length_append, List.length_cons, List.length_nil]; omega) n25 (Ne.symm n4) (Ne.symm n5) (Ne.symm n27) (Ne.symm n28)) pd_21 e45 28 (fun u46 T46 L46 X46 hQ46 => ?_)
  obtain ⟨o346, kd346, c346, rfl, Nq46, szo346, Kq46, q46_0, q46_1, q46_2, q46_3, q46_4, p46_c90, p46_ll⟩ := hQ46
  have N46 := Fr.app N24 Nq46
  have n47 : b2 ≠ o346 := alt_ne szo346 n25 f44.lt
  have n48 : o1 ≠ o346 := alt_ne szo346 n26 f31.lt
  have n51 : o7 ≠ o346 := alt_ne szo346 n29 f41.lt
  have n52 : o8 ≠ o346 := alt_ne szo346 n30 f42.lt
  have f53 := f31.keep Kq46
  have f55 := f33.keep Kq46 (ninS n3 (ninS n26 nin0))
  have f56 := f34.keep Kq46 (ninS n3 (ninS n26 nin0))
  have f61 := Sta.keepN f39 Kq46 (allS (Exa.ns f44) (allS (Exa.ns q24_4) all0))
  have f62 := Sta.keepN f40 Kq46 (allS (Exa.ns f44) (allS (Exa.ns q24_4) all0))
  have f63 := f41.keep Kq46 (ninS n6 (ninS n29 nin0))
  have f64 := f42.keep Kq46 (ninS n7 (ninS n30 nin0))
  have f65 := Sta.keepN f43 Kq46 (allS (Exa.ns f44) (allS (Exa.ns q24_4) all0))
  have f66 := f44.keep Kq46
  have gn_o346 : n0 ≤ o346 := alt_born szo346 gn_o324 Z24
  have Z46 := Nat.le_trans Z24 Kq46.1
  have hk46 := Nat.le_trans hk24 Kq46.1
  have H_46 := CHv.keep Kq46 (allS (Safe.exa C.2.1.alike f44 (by decide) (by decide)) (allS sf_o324_24 all0)) H_24
  have R_46 := R_24.trans (CHr.keep Kq46 (allS (Safe.exa C.2.1.alike f44 (by decide) (by decide)) (allS sf_o324_24 all0)) H_24)
  have sf_o346_46 := Safe.keep Kq46 (allS (Safe.exa C.2.1.alike f44 (by decide) (by decide)) (allS sf_o324_24 all0)) H_24 (alt_safe szo346 sf_o324_24)
  have sz_o346 : h0.size ≤ o346 := alt_sz szo346 sz_o324 K24.1
  have K46 := K24.trans Kq46 (allS (Or.inr sz_b2) (allS (Or.inr sz_o324) all0))
  refine ret1 ?_
  refine g_ldcCH C X46 (n := 4) (z := (1 : Int32)) (vs := [(.int 58)]) (hw _ (List.mem_of_getElem? (i := 127) rfl)) (strAtoms hw) rfl hS0 hk46 hEL (by decide) H_46 ⟨by decide, rfl⟩ (by decide) rfl d8_28 30 (by decide) (by decide) (by decide) (by decide) (fun b67 T67 h67 k67 bb67 ki67 C67 X67 e67 E67 hS67 hk67 fe67 fc67 fv67 fa67 A67 sn67 => ?_)
  have f68 := f53.ext E67
  have f70 := f55.ext E67
  have f71 := f56.ext E67
  have f76 := f61.ext E67
  have f77 := f62.ext E67
  have f78 := f63.ext E67
  have f79 := f64.ext E67
  have f80 := f65.ext E67
  have f81 := f66.ext E67
  have f82 := q46_0.ext E67
  have f83 := q46_1.ext E67
  have f84 := q46_2.ext E67
  have f85 := q46_3.ext E67
  have f86 := q46_4.ext E67
  have H_67 := A67.1
  have R_67 := R_46.trans A67
  have sf_o346_67 := A67.safe q46_3.lt sf_o346_46
  have Z67 := Nat.le_trans Z46 E67.1
  have K67 := K46.ext E67
  have f87 : Arv Z h67 bb67 ki67 .byte (Int32.ofNat ([58] : List Int32).length) (([58] : List Int32).map Value.int) (.int 0) := fa67
  refine g_callV C67 X67 (w_80 hw) (w_81 hw) (notFace_of_selects (args := #[]) (mvT C67.2.1 (w_83 hw))) (w_83 hw) (w_82 hw) (w_84 hw) (w_64 hw) f81 d8_30 [(.ref b67)] [] 0 (rm13 hw Z67 f81 f82 f83 f84 f85 f86 fe67 fv67 fc67 f87 f80 gn_b2 gn_o346 hcs p46_c90 p46_ll (by have q1 := decI_length x1; have q2 := decI_length x2; simp only [List.length_append, List.length_cons, List.length_nil]; omega) n47 (sn67 _ (Safe.exa C67.2.1.alike f81 (by decide) (by decide))).1 (sn67 _ (Safe.exa C67.2.1.alike f81 (by decide) (by decide))).2 (sn67 _ sf_o346_67).1 (sn67 _ sf_o346_67).2) pd_21 e67 33 (fun u88 T88 L88 X88 hQ88 => ?_)
  obtain ⟨o388, kd388, c388, rfl, Nq88, szo388, Kq88, q88_0, q88_1, q88_2, q88_3, q88_4, p88_c90, p88_ll⟩ := hQ88
  have N88 := Fr.app N46 Nq88
  have n89 : b2 ≠ o388 := alt_ne szo388 n47 f81.lt
  have n92 : o1 ≠ o388 := alt_ne szo388 n48 f68.lt
  have n95 : o7 ≠ o388 := alt_ne szo388 n51 f78.lt
  have n96 : o8 ≠ o388 := alt_ne szo388 n52 f79.lt
  have f97 := f68.keep Kq88
  have f99 := f70.keep Kq88 (ninS n3 (ninS n48 nin0))
  have f100 := f71.keep Kq88 (ninS n3 (ninS n48 nin0))
  have f105 := Sta.keepN f76 Kq88 (allS (Exa.ns f81) (allS (Exa.ns f86) all0))
  have f106 := Sta.keepN f77 Kq88 (allS (Exa.ns f81) (allS (Exa.ns f86) all0))
  have f107 := f78.keep Kq88 (ninS n6 (ninS n51 nin0))
  have f108 := f79.keep Kq88 (ninS n7 (ninS n52 nin0))
  have f109 := Sta.keepN f80 Kq88 (allS (Exa.ns f81) (allS (Exa.ns f86) all0))
  have f110 := f81.keep Kq88
  have gn_o388 : n0 ≤ o388 := alt_born szo388 gn_o346 Z67
  have Z88 := Nat.le_trans Z67 Kq88.1
  have hk88 := Nat.le_trans hk67 Kq88.1
  have H_88 := CHv.keep Kq88 (allS (Safe.exa C67.2.1.alike f81 (by decide) (by decide)) (allS sf_o346_67 all0)) H_67
  have R_88 := R_67.trans (CHr.keep Kq88 (allS (Safe.exa C67.2.1.alike f81 (by decide) (by decide)) (allS sf_o346_67 all0)) H_67)
  have sf_o388_88 := Safe.keep Kq88 (allS (Safe.exa C67.2.1.alike f81 (by decide) (by decide)) (allS sf_o346_67 all0)) H_67 (alt_safe szo388 sf_o346_67)
  have sz_o388 : h0.size ≤ o388 := alt_sz szo388 sz_o346 K67.1
  have K88 := K67.trans Kq88 (allS (Or.inr sz_b2) (allS (Or.inr sz_o346) all0))
  refine ret1 ?_
  refine g_aloadN C67 X88 d8_33 34 rfl rfl ?_
  refine g_getF C67 X88 (w_40 hw) Via.refl rfl f99 d8_34 37 (fun T115 X115 e115 => ?_)
  refine g_callV C67 X115 (w_128 hw) (w_129 hw) (notFace_of_selects (args := #[]) (mvT C67.2.1 (w_131 hw))) (w_131 hw) (w_130 hw) (w_132 hw) (w_64 hw) f110 d8_37 [(.int x1)] [] 0 (rm21 hw Z88 f110 q88_0 q88_1 q88_2 q88_3 q88_4 f105 f106 f107 f108 f109 gn_b2 gn_o388 hcs p88_c90 p88_ll (by have q1 := decI_length x1; have q2 := decI_length x2; simp only [List.length_append, List.length_cons, List.length_nil]; omega) n89 (Ne.symm n6) (Ne.symm n7) (Ne.symm n95) (Ne.symm n96)) pd_22 e115 40 (fun u116 T116 L116 X116 hQ116 => ?_)
  obtain ⟨o3116, kd3116, c3116, rfl, Nq116, szo3116, Kq116, q116_0, q116_1, q116_2, q116_3, q116_4, p116_c90, p116_ll⟩ := hQ116
  have N116 := Fr.app N88 Nq116
  have n117 : b2 ≠ o3116 := alt_ne szo3116 n89 f110.lt
  have n120 : o1 ≠ o3116 := alt_ne szo3116 n92 f97.lt
  have n123 : o7 ≠ o3116 := alt_ne szo3116 n95 f107.lt
  have n124 : o8 ≠ o3116 := alt_ne szo3116 n96 f108.lt
  have f128 := f100.keep Kq116 (ninS n3 (ninS n92 nin0))
  have f133 := Sta.keepN f105 Kq116 (allS (Exa.ns f110) (allS (Exa.ns q88_4) all0))
  have f134 := Sta.keepN f106 Kq116 (allS (Exa.ns f110) (allS (Exa.ns q88_4) all0))
  have f135 := f107.keep Kq116 (ninS n6 (ninS n95 nin0))
  have f136 := f108.keep Kq116 (ninS n7 (ninS n96 nin0))
  have f137 := Sta.keepN f109 Kq116 (allS (Exa.ns f110) (allS (Exa.ns q88_4) all0))
  have f138 := f110.keep Kq116
  have gn_o3116 : n0 ≤ o3116 := alt_born szo3116 gn_o388 Z88
  have Z116 := Nat.le_trans Z88 Kq116.1
  have hk116 := Nat.le_trans hk88 Kq116.1
  have H_116 := CHv.keep Kq116 (allS (Safe.exa C67.2.1.alike f110 (by decide) (by decide)) (allS sf_o388_88 all0)) H_88
  have R_116 := R_88.trans (CHr.keep Kq116 (allS (Safe.exa C67.2.1.alike f110 (by decide) (by decide)) (allS sf_o388_88 all0)) H_88)
  have sf_o3116_116 := Safe.keep Kq116 (allS (Safe.exa C67.2.1.alike f110 (by decide) (by decide)) (allS sf_o388_88 all0)) H_88 (alt_safe szo3116 sf_o388_88)
  have sz_o3116 : h0.size ≤ o3116 := alt_sz szo3116 sz_o388 K88.1
  have K116 := K88.trans Kq116 (allS (Or.inr sz_b2) (allS (Or.inr sz_o388) all0))
  refine ret1 ?_
  refine g_ldcCH C67 X116 (n := 4) (z := (1 : Int32)) (vs := [(.int 58)]) (hw _ (List.mem_of_getElem? (i := 127) rfl)) (strAtoms hw) rfl hS67 hk116 hEL (by decide) H_116 ⟨by decide, rfl⟩ (by decide) rfl d8_40 42 (by decide) (by decide) (by decide) (by decide) (fun b143 T143 h143 k143 bb143 ki143 C143 X143 e143 E143 hS143 hk143 fe143 fc143 fv143 fa143 A143 sn143 => ?_)
  have f147 := f128.ext E143
  have f152 := f133.ext E143
  have f153 := f134.ext E143
  have f154 := f135.ext E143
  have f155 := f136.ext E143
  have f156 := f137.ext E143
  have f157 := f138.ext E143
  have f162 := q116_0.ext E143
  have f163 := q116_1.ext E143
  have f164 := q116_2.ext E143
  have f165 := q116_3.ext E143
  have f166 := q116_4.ext E143
  have H_143 := A143.1
  have R_143 := R_116.trans A143
  have sf_o3116_143 := A143.safe q116_3.lt sf_o3116_116
  have Z143 := Nat.le_trans Z116 E143.1
  have K143 := K116.ext E143
  have f167 : Arv Z h143 bb143 ki143 .byte (Int32.ofNat ([58] : List Int32).length) (([58] : List Int32).map Value.int) (.int 0) := fa143
  refine g_callV C143 X143 (w_80 hw) (w_81 hw) (notFace_of_selects (args := #[]) (mvT C143.2.1 (w_83 hw))) (w_83 hw) (w_82 hw) (w_84 hw) (w_64 hw) f157 d8_42 [(.ref b143)] [] 0 (rm13 hw Z143 f157 f162 f163 f164 f165 f166 fe143 fv143 fc143 f167 f156 gn_b2 gn_o3116 hcs p116_c90 p116_ll (by have q1 := decI_length x1; have q2 := decI_length x2; simp only [List.length_append, List.length_cons, List.length_nil]; omega) n117 (sn143 _ (Safe.exa C143.2.1.alike f157 (by decide) (by decide))).1 (sn143 _ (Safe.exa C143.2.1.alike f157 (by decide) (by decide))).2 (sn143 _ sf_o3116_143).1 (sn143 _ sf_o3116_143).2) pd_21 e143 45 (fun u168 T168 L168 X168 hQ168 => ?_)
  obtain ⟨o3168, kd3168, c3168, rfl, Nq168, szo3168, Kq168, q168_0, q168_1, q168_2, q168_3, q168_4, p168_c90, p168_ll⟩ := hQ168
  have N168 := Fr.app N116 Nq168
  have n170 : b2 ≠ o3168 := alt_ne szo3168 n117 f157.lt
  have n177 : o7 ≠ o3168 := alt_ne szo3168 n123 f154.lt
  have n178 : o8 ≠ o3168 := alt_ne szo3168 n124 f155.lt
  have f182 := f147.keep Kq168 (ninS n3 (ninS n120 nin0))
  have f187 := Sta.keepN f152 Kq168 (allS (Exa.ns f157) (allS (Exa.ns f166) all0))
  have f188 := Sta.keepN f153 Kq168 (allS (Exa.ns f157) (allS (Exa.ns f166) all0))
  have f189 := f154.keep Kq168 (ninS n6 (ninS n123 nin0))
  have f190 := f155.keep Kq168 (ninS n7 (ninS n124 nin0))
  have f191 := Sta.keepN f156 Kq168 (allS (Exa.ns f157) (allS (Exa.ns f166) all0))
  have f192 := f157.keep Kq168
  have gn_o3168 : n0 ≤ o3168 := alt_born szo3168 gn_o3116 Z143
  have Z168 := Nat.le_trans Z143 Kq168.1
  have hk168 := Nat.le_trans hk143 Kq168.1
  have H_168 := CHv.keep Kq168 (allS (Safe.exa C143.2.1.alike f157 (by decide) (by decide)) (allS sf_o3116_143 all0)) H_143
  have R_168 := R_143.trans (CHr.keep Kq168 (allS (Safe.exa C143.2.1.alike f157 (by decide) (by decide)) (allS sf_o3116_143 all0)) H_143)
  have sf_o3168_168 := Safe.keep Kq168 (allS (Safe.exa C143.2.1.alike f157 (by decide) (by decide)) (allS sf_o3116_143 all0)) H_143 (alt_safe szo3168 sf_o3116_143)
  have sz_o3168 : h0.size ≤ o3168 := alt_sz szo3168 sz_o3116 K143.1
  have K168 := K143.trans Kq168 (allS (Or.inr sz_b2) (allS (Or.inr sz_o3116) all0))
  refine ret1 ?_
  refine g_aloadN C143 X168 d8_45 46 rfl rfl ?_
  refine g_getF C143 X168 (w_42 hw) Via.refl rfl f182 d8_46 49 (fun T201 X201 e201 => ?_)
  refine g_callV C143 X201 (w_128 hw) (w_129 hw) (notFace_of_selects (args := #[]) (mvT C143.2.1 (w_131 hw))) (w_131 hw) (w_130 hw) (w_132 hw) (w_64 hw) f192 d8_49 [(.int x2)] [] 0 (rm21 hw Z168 f192 q168_0 q168_1 q168_2 q168_3 q168_4 f187 f188 f189 f190 f191 gn_b2 gn_o3168 hcs p168_c90 p168_ll (by have q1 := decI_length x1; have q2 := decI_length x2; simp only [List.length_append, List.length_cons, List.length_nil]; omega) n170 (Ne.symm n6) (Ne.symm n7) (Ne.symm n177) (Ne.symm n178)) pd_22 e201 52 (fun u202 T202 L202 X202 hQ202 => ?_)
  obtain ⟨o3202, kd3202, c3202, rfl, Nq202, szo3202, Kq202, q202_0, q202_1, q202_2, q202_3, q202_4, p202_c90, p202_ll⟩ := hQ202
  have N202 := Fr.app N168 Nq202
  have n204 : b2 ≠ o3202 := alt_ne szo3202 n170 f192.lt
  have f225 := Sta.keepN f191 Kq202 (allS (Exa.ns f192) (allS (Exa.ns q168_4) all0))
  have f226 := f192.keep Kq202
  have Z202 := Nat.le_trans Z168 Kq202.1
  have hk202 := Nat.le_trans hk168 Kq202.1
  have H_202 := CHv.keep Kq202 (allS (Safe.exa C143.2.1.alike f192 (by decide) (by decide)) (allS sf_o3168_168 all0)) H_168
  have R_202 := R_168.trans (CHr.keep Kq202 (allS (Safe.exa C143.2.1.alike f192 (by decide) (by decide)) (allS sf_o3168_168 all0)) H_168)
  have K202 := K168.trans Kq202 (allS (Or.inr sz_b2) (allS (Or.inr sz_o3168) all0))
  refine ret1 ?_
  refine g_callV C143 X202 (w_150 hw) (w_151 hw) (notFace_of_selects (args := #[]) (mvT C143.2.1 (w_153 hw))) (w_153 hw) (w_152 hw) (w_154 hw) (w_64 hw) f226 d8_52 [] [] 0 (rm26 hw Z202 f226 q202_0 q202_1 q202_2 q202_3 q202_4 f225 hcs p202_ll p202_c90 n204) pd_23 rfl 55 (fun u235 T235 L235 X235 hQ235 => ?_)
  obtain ⟨o4235, o3235, kd3235, rfl, Nq235, szo4235, szo3235, Kq235, q235_0, q235_1, q235_2, q235_3⟩ := hQ235
  have N235 := Fr.app N202 Nq235
  have hk235 := Nat.le_trans hk202 Kq235.1
  have H_235 := CHv.keep Kq235 all0 H_202
  have R_235 := R_202.trans (CHr.keep Kq235 all0 H_202)
  have sz_o4235 : h0.size ≤ o4235 := Nat.le_trans K202.1 szo4235
  have sz_o3235 : h0.size ≤ o3235 := Nat.le_trans K202.1 szo3235
  have K235 := K202.trans Kq235 all0
  refine ret1 ?_
  exact g_retAH C143 X235 K hS143 hk235 hEL H_235 R_235 rfl rfl rfl d8_55 (by decide) (by decide) rfl ⟨o4235, o3235, kd3235, rfl, N235, sz_o4235, sz_o3235, K235, q235_0, q235_1, q235_2, q235_3⟩
theorem rm8_z_n {o1 : Addr} {x1 x2 : Int32} (hw : OwnW a0 Z) (Z0 : n0 ≤ h0.size) (F0 : Fld Z h0 o1 "com/example/mortise/mortise/core/Problem" "path" "Ljava/lang/String;" .null) (F1 : Fld Z h0 o1 "com/example/mortise/mortise/core/Problem" "line" "I" (.int x1)) (F2 : Fld Z h0 o1 "com/example/mortise/mortise/core/Problem" "column" "I" (.int x2)) (hz : x1 = (0 : Int32)) : OwnMF l Z y8 prog_7_method_4_code 1 (some (.object "java/lang/String")) ws ⟨0, 0, 0, 0⟩ #[(.ref o1)] h0 (OwnQ (some .null) h0 n0) := by
  refine bo (plainFor_of_name pn_6) ?_
  intro p e s m below meth c T0 G C hnm hnamed X0 e0 K
  have N0 := Fr.nil n0
  refine Goes.to (congrArg T0.setTop (ef_8r m o1)) ?_
  refine g_aloadN C X0 d8_0 1 rfl rfl ?_
  refine g_getF C X0 (w_40 hw) Via.refl e0 F1 d8_1 4 (fun T1 X1 e1 => ?_)
  refine g_if_ne C X1 d8_4 14 7 (fun hc4 => absurd hz hc4) (fun hc4 => ?_)
  refine g_aloadN C X1 d8_7 8 rfl rfl ?_
  refine g_getF C X1 (w_38 hw) Via.refl e1 F0 d8_8 11 (fun T2 X2 e2 => ?_)
  refine g_goto C X2 d8_11 55 ?_
  exact g_retA C X2 K rfl rfl rfl d8_55 (by decide) (by decide) e2 ⟨rfl, N0, rfl⟩
def Q8_t_n (Z : State) (o1 : Addr) (x1 : Int32) (x2 : Int32) (o7 : Addr) (o8 : Addr) (kd7 : ClassId) (kd8 : ClassId) (cs1 : Int32) (h0 : Heap) (n0 : Nat) (v : Option Value) (h : Heap) (L : List Loc) : Prop := ∃ (o4 : Addr) (o3 : Addr) (kd3 : ClassId), v = some (.ref o4) ∧ Fr n0 L ∧ h0.size ≤ o4 ∧ h0.size ≤ o3 ∧ Keep h0 h [] ∧ OEs Z h o4 ∧ OFv Z h o4 (.ref o3) ∧ OFc Z h o4 ∧ Arv Z h o3 kd3 .byte (Int32.ofNat ((((((([] : List Int32) ++ ([110, 117, 108, 108] : List Int32)) ++ ([58] : List Int32)) ++ decI x1) ++ ([58] : List Int32)) ++ decI x2)).length) (((((((([] : List Int32) ++ ([110, 117, 108, 108] : List Int32)) ++ ([58] : List Int32)) ++ decI x1) ++ ([58] : List Int32)) ++ decI x2)).map Value.int) (.int 0)
theorem rm8_t_n {o1 o7 o8 : Addr} {x1 x2 cs1 : Int32} {kd7 kd8 : ClassId} (hw : OwnW a0 Z) (Z0 : n0 ≤ h0.size) (hEL : EW Z a0 EL) (F0 : Exa Z h0 o1 "com/example/mortise/mortise/core/Problem") (F1 : Fld Z h0 o1 "com/example/mortise/mortise/core/Problem" "path" "Ljava/lang/String;" .null) (F2 : Fld Z h0 o1 "com/example/mortise/mortise/core/Problem" "line" "I" (.int x1)) (F3 : Fld Z h0 o1 "com/example/mortise/mortise/core/Problem" "column" "I" (.int x2)) (F4 : Sta Z h0 "java/lang/Integer" "DigitOnes" "[B" (.ref o7)) (F5 : Sta Z h0 "java/lang/Integer" "DigitTens" "[B" (.ref o8)) (F6 : Arv Z h0 o7 kd7 .byte (Int32.ofNat 100) (onesL.map Value.int) (.int 0)) (F7 : Arv Z h0 o8 kd8 .byte (Int32.ofNat 100) (tensL.map Value.int) (.int 0)) (F8 : OSc Z h0 cs1) (hcs : ¬ cs1 = (0 : Int32)) (hz : ¬ x1 = (0 : Int32)) : OwnMFH l Z EL y8 prog_7_method_4_code 1 (some (.object "java/lang/String")) ws ⟨7, 13, 580, 103⟩ #[(.ref o1)] h0 (Q8_t_n Z o1 x1 x2 o7 o8 kd7 kd8 cs1 h0 n0) := by
  refine boH (plainFor_of_name pn_6) ?_
  intro p e s m below meth c T0 G C hnm hnamed X0 e0 hh0 hS0 H0_ R0_ K
  have N0 := Fr.nil n0
  refine Goes.to (congrArg T0.setTop (ef_8r m o1)) ?_
  have K00 := Keep.refl h0 []
  refine g_aloadN C X0 d8_0 1 rfl rfl ?_
  refine g_getF C X0 (w_40 hw) Via.refl e0 F2 d8_1 4 (fun T1 X1 e1 => ?_)
  refine g_if_ne C X1 d8_4 14 7 (fun hc4 => ?_) (fun hc4 => absurd hc4 hz)
  refine g_new C X1 (w_62 hw) (w_63 hw) (w_64 hw) e1 d8_14 17 (by decide) (by decide) (fun T2 h2 b2 X2 e2 g2 E2 A2 D2 => ?_)
  have n3 : o1 ≠ b2 := Nat.ne_of_lt (Nat.lt_of_lt_of_eq F0.lt g2.symm)
  have n4 : o7 ≠ b2 := Nat.ne_of_lt (Nat.lt_of_lt_of_eq F6.lt g2.symm)
  have n5 : o8 ≠ b2 := Nat.ne_of_lt (Nat.lt_of_lt_of_eq F7.lt g2.symm)
  have f6 := F0.ext E2
  have f7 := F1.ext E2
  have f8 := F2.ext E2
  have f9 := F3.ext E2
  have f10 := F4.ext E2
  have f11 := F5.ext E2
  have f12 := F6.ext E2
  have f13 := F7.ext E2
  have f14 := F8.ext E2
  have gn_b2 : n0 ≤ b2 := Nat.le_trans Z0 (Nat.le_of_eq g2.symm)
  have Z2 := Nat.le_trans Z0 E2.1
  have hk2 := Nat.le_trans (Nat.zero_le _) E2.1
  have H_2 := H0_.ext E2
  have R_2 := R0_.trans (CHr.ext E2 H0_)
  have sz_b2 : h0.size ≤ b2 := Nat.le_trans K00.1 (Nat.le_of_eq g2.symm)
  have K2 := K00.ext E2
  have f15 : Fld Z h2 b2 "java/lang/AbstractStringBuilder" "value" "[B" .null := D2 (Or.inl (w_77 hw)) (ty := (.array .byte)) (by decide)
  have f16 : Fld Z h2 b2 "java/lang/AbstractStringBuilder" "coder" "B" (.int 0) := D2 (Or.inl (w_79 hw)) (ty := .byte) (by decide)
  have f17 : Fld Z h2 b2 "java/lang/AbstractStringBuilder" "count" "I" (.int 0) := D2 (Or.inl (w_101 hw)) (ty := .int) (by decide)
  refine g_dup C X2 d8_17 18 rfl ?_
  refine g_callI C X2 rfl (w_65 hw) (w_66 hw) (w_64 hw) (w_67 hw) d8_18 [] [(.ref b2)] 1 (rm11 hw Z2 A2 f15 f16 f17 f14 gn_b2 hcs) pd_0 e2 21 (fun u18 T18 L18 X18 hQ18 => ?_)
  obtain ⟨o318, kd318, rfl, Nq18, szo318, Kq18, q18_0, q18_1, q18_2, q18_3, q18_4⟩ := hQ18
  have N18 := Fr.app N0 Nq18
  have n19 : b2 ≠ o318 := Nat.ne_of_lt (Nat.lt_of_lt_of_le A2.lt szo318)
  have n20 : o1 ≠ o318 := Nat.ne_of_lt (Nat.lt_of_lt_of_le f6.lt szo318)
  have n21 : o7 ≠ o318 := Nat.ne_of_lt (Nat.lt_of_lt_of_le f12.lt szo318)
  have n22 : o8 ≠ o318 := Nat.ne_of_lt (Nat.lt_of_lt_of_le f13.lt szo318)
  have f23 := f6.keep Kq18
  have f24 := f7.keep Kq18 (ninS n3 nin0)
  have f25 := f8.keep Kq18 (ninS n3 nin0)
  have f26 := f9.keep Kq18 (ninS n3 nin0)
  have f27 := Sta.keepN f10 Kq18 (allS (Exa.ns A2) all0)
  have f28 := Sta.keepN f11 Kq18 (allS (Exa.ns A2) all0)
  have f29 := f12.keep Kq18 (ninS n4 nin0)
  have f30 := f13.keep Kq18 (ninS n5 nin0)
  have f31 := Sta.keepN f14 Kq18 (allS (Exa.ns A2) all0)
  have f32 := A2.keep Kq18
  have gn_o318 : n0 ≤ o318 := Nat.le_trans Z2 szo318
  have Z18 := Nat.le_trans Z2 Kq18.1
  have hk18 := Nat.le_trans hk2 Kq18.1
  have H_18 := CHv.keep Kq18 (allS (Safe.exa C.2.1.alike A2 (by decide) (by decide)) all0) H_2
  have R_18 := R_2.trans (CHr.keep Kq18 (allS (Safe.exa C.2.1.alike A2 (by decide) (by decide)) all0) H_2)
  have sf_o318_18 := Safe.keep Kq18 (allS (Safe.exa C.2.1.alike A2 (by decide) (by decide)) all0) H_2 (Safe.new szo318)
  have sz_o318 : h0.size ≤ o318 := Nat.le_trans K2.1 szo318
  have K18 := K2.trans Kq18 (allS (Or.inr sz_b2) all0)
  refine ret0 ?_
  refine g_aloadN C X18 d8_21 22 rfl rfl ?_
  refine g_getF C X18 (w_38 hw) Via.refl rfl f24 d8_22 25 (fun T33 X33 e33 => ?_)
  refine g_callV C X33 (w_80 hw) (w_81 hw) (notFace_of_selects (args := #[]) (mvT C.2.1 (w_83 hw))) (w_83 hw) (w_82 hw) (w_84 hw) (w_64 hw) f32 d8_25 [.null] [] 0 (rm13_n hw Z18 f32 q18_0 q18_1 q18_2 q18_3 q18_4 f31 gn_b2 gn_o318 hcs (by decide) (by decide) (by have q1 := decI_length x1; have q2 := decI_length x2; simp only [List.length_append, List.length_cons, List.length_nil]; omega) n19) pd_21 e33 28 (fun u34 T34 L34 X34 hQ34 => ?_)
  obtain ⟨o334, kd334, c334, rfl, Nq34, szo334, Kq34, q34_0, q34_1, q34_2, q34_3, q34_4, p34_c90, p34_ll⟩ := hQ34
  have N34 := Fr.app N18 Nq34
  have n35 : b2 ≠ o334 := alt_ne szo334 n19 f32.lt
  have n36 : o1 ≠ o334 := alt_ne szo334 n20 f23.lt
  have n37 : o7 ≠ o334 := alt_ne szo334 n21 f29.lt
  have n38 : o8 ≠ o334 := alt_ne szo334 n22 f30.lt
  have f39 := f23.keep Kq34
  have f41 := f25.keep Kq34 (ninS n3 (ninS n20 nin0))
  have f42 := f26.keep Kq34 (ninS n3 (ninS n20 nin0))
  have f43 := Sta.keepN f27 Kq34 (allS (Exa.ns f32) (allS (Exa.ns q18_4) all0))
  have f44 := Sta.keepN f28 Kq34 (allS (Exa.ns f32) (allS (Exa.ns q18_4) all0))
  have f45 := f29.keep Kq34 (ninS n4 (ninS n21 nin0))
  have f46 := f30.keep Kq34 (ninS n5 (ninS n22 nin0))
  have f47 := Sta.keepN f31 Kq34 (allS (Exa.ns f32) (allS (Exa.ns q18_4) all0))
  have f48 := f32.keep Kq34
  have gn_o334 : n0 ≤ o334 := alt_born szo334 gn_o318 Z18
  have Z34 := Nat.le_trans Z18 Kq34.1
  have hk34 := Nat.le_trans hk18 Kq34.1
  have H_34 := CHv.keep Kq34 (allS (Safe.exa C.2.1.alike f32 (by decide) (by decide)) (allS sf_o318_18 all0)) H_18
  have R_34 := R_18.trans (CHr.keep Kq34 (allS (Safe.exa C.2.1.alike f32 (by decide) (by decide)) (allS sf_o318_18 all0)) H_18)
  have sf_o334_34 := Safe.keep Kq34 (allS (Safe.exa C.2.1.alike f32 (by decide) (by decide)) (allS sf_o318_18 all0)) H_18 (alt_safe szo334 sf_o318_18)
  have sz_o334 : h0.size ≤ o334 := alt_sz szo334 sz_o318 K18.1
  have K34 := K18.trans Kq34 (allS (Or.inr sz_b2) (allS (Or.inr sz_o318) all0))
  refine ret1 ?_
  refine g_ldcCH C X34 (n := 4) (z := (1 : Int32)) (vs := [(.int 58)]) (hw _ (List.mem_of_getElem? (i := 127) rfl)) (strAtoms hw) rfl hS0 hk34 hEL (by decide) H_34 ⟨by decide, rfl⟩ (by decide) rfl d8_28 30 (by decide) (by decide) (by decide) (by decide) (fun b49 T49 h49 k49 bb49 ki49 C49 X49 e49 E49 hS49 hk49 fe49 fc49 fv49 fa49 A49 sn49 => ?_)
  have f50 := f39.ext E49
  have f52 := f41.ext E49
  have f53 := f42.ext E49
  have f54 := f43.ext E49
  have f55 := f44.ext E49
  have f56 := f45.ext E49
  have f57 := f46.ext E49
  have f58 := f47.ext E49
  have f59 := f48.ext E49
  have f60 := q34_0.ext E49
  have f61 := q34_1.ext E49
  have f62 := q34_2.ext E49
  have f63 := q34_3.ext E49
  have f64 := q34_4.ext E49
  have H_49 := A49.1
  have R_49 := R_34.trans A49
  have sf_o334_49 := A49.safe q34_3.lt sf_o334_34
  have Z49 := Nat.le_trans Z34 E49.1
  have K49 := K34.ext E49
  have f65 : Arv Z h49 bb49 ki49 .byte (Int32.ofNat ([58] : List Int32).length) (([58] : List Int32).map Value.int) (.int 0) := fa49
  refine g_callV C49 X49 (w_80 hw) (w_81 hw) (notFace_of_selects (args := #[]) (mvT C49.2.1 (w_83 hw))) (w_83 hw) (w_82 hw) (w_84 hw) (w_64 hw) f59 d8_30 [(.ref b49)] [] 0 (rm13 hw Z49 f59 f60 f61 f62 f63 f64 fe49 fv49 fc49 f65 f58 gn_b2 gn_o334 hcs p34_c90 p34_ll (by have q1 := decI_length x1; have q2 := decI_length x2; simp only [List.length_append, List.length_cons, List.length_nil]; omega) n35 (sn49 _ (Safe.exa C49.2.1.alike f59 (by decide) (by decide))).1 (sn49 _ (Safe.exa C49.2.1.alike f59 (by decide) (by decide))).2 (sn49 _ sf_o334_49).1 (sn49 _ sf_o334_49).2) pd_21 e49 33 (fun u66 T66 L66 X66 hQ66 => ?_)
  obtain ⟨o366, kd366, c366, rfl, Nq66, szo366, Kq66, q66_0, q66_1, q66_2, q66_3, q66_4, p66_c90, p66_ll⟩ := hQ66
  have N66 := Fr.app N34 Nq66
  have n67 : b2 ≠ o366 := alt_ne szo366 n35 f59.lt
  have n70 : o1 ≠ o366 := alt_ne szo366 n36 f50.lt
  have n71 : o7 ≠ o366 := alt_ne szo366 n37 f56.lt
  have n72 : o8 ≠ o366 := alt_ne szo366 n38 f57.lt
  have f73 := f50.keep Kq66
  have f75 := f52.keep Kq66 (ninS n3 (ninS n36 nin0))
  have f76 := f53.keep Kq66 (ninS n3 (ninS n36 nin0))
  have f77 := Sta.keepN f54 Kq66 (allS (Exa.ns f59) (allS (Exa.ns f64) all0))
  have f78 := Sta.keepN f55 Kq66 (allS (Exa.ns f59) (allS (Exa.ns f64) all0))
  have f79 := f56.keep Kq66 (ninS n4 (ninS n37 nin0))
  have f80 := f57.keep Kq66 (ninS n5 (ninS n38 nin0))
  have f81 := Sta.keepN f58 Kq66 (allS (Exa.ns f59) (allS (Exa.ns f64) all0))
  have f82 := f59.keep Kq66
  have gn_o366 : n0 ≤ o366 := alt_born szo366 gn_o334 Z49
  have Z66 := Nat.le_trans Z49 Kq66.1
  have hk66 := Nat.le_trans hk49 Kq66.1
  have H_66 := CHv.keep Kq66 (allS (Safe.exa C49.2.1.alike f59 (by decide) (by decide)) (allS sf_o334_49 all0)) H_49
  have R_66 := R_49.trans (CHr.keep Kq66 (allS (Safe.exa C49.2.1.alike f59 (by decide) (by decide)) (allS sf_o334_49 all0)) H_49)
  have sf_o366_66 := Safe.keep Kq66 (allS (Safe.exa C49.2.1.alike f59 (by decide) (by decide)) (allS sf_o334_49 all0)) H_49 (alt_safe szo366 sf_o334_49)
  have sz_o366 : h0.size ≤ o366 := alt_sz szo366 sz_o334 K49.1
  have K66 := K49.trans Kq66 (allS (Or.inr sz_b2) (allS (Or.inr sz_o334) all0))
  refine ret1 ?_
  refine g_aloadN C49 X66 d8_33 34 rfl rfl ?_
  refine g_getF C49 X66 (w_40 hw) Via.refl rfl f75 d8_34 37 (fun T87 X87 e87 => ?_)
  refine g_callV C49 X87 (w_128 hw) (w_129 hw) (notFace_of_selects (args := #[]) (mvT C49.2.1 (w_131 hw))) (w_131 hw) (w_130 hw) (w_132 hw) (w_64 hw) f82 d8_37 [(.int x1)] [] 0 (rm21 hw Z66 f82 q66_0 q66_1 q66_2 q66_3 q66_4 f77 f78 f79 f80 f81 gn_b2 gn_o366 hcs p66_c90 p66_ll (by have q1 := decI_length x1; have q2 := decI_length x2; simp only [List.length_append, List.length_cons, List.length_nil]; omega) n67 (Ne.symm n4) (Ne.symm n5) (Ne.symm n71) (Ne.symm n72)) pd_22 e87 40 (fun u88 T88 L88 X88 hQ88 => ?_)
  obtain ⟨o388, kd388, c388, rfl, Nq88, szo388, Kq88, q88_0, q88_1, q88_2, q88_3, q88_4, p88_c90, p88_ll⟩ := hQ88
  have N88 := Fr.app N66 Nq88
  have n89 : b2 ≠ o388 := alt_ne szo388 n67 f82.lt
  have n92 : o1 ≠ o388 := alt_ne szo388 n70 f73.lt
  have n93 : o7 ≠ o388 := alt_ne szo388 n71 f79.lt
  have n94 : o8 ≠ o388 := alt_ne szo388 n72 f80.lt
  have f98 := f76.keep Kq88 (ninS n3 (ninS n70 nin0))
  have f99 := Sta.keepN f77 Kq88 (allS (Exa.ns f82) (allS (Exa.ns q66_4) all0))
  have f100 := Sta.keepN f78 Kq88 (allS (Exa.ns f82) (allS (Exa.ns q66_4) all0))
  have f101 := f79.keep Kq88 (ninS n4 (ninS n71 nin0))
  have f102 := f80.keep Kq88 (ninS n5 (ninS n72 nin0))
  have f103 := Sta.keepN f81 Kq88 (allS (Exa.ns f82) (allS (Exa.ns q66_4) all0))
  have f104 := f82.keep Kq88
  have gn_o388 : n0 ≤ o388 := alt_born szo388 gn_o366 Z66
  have Z88 := Nat.le_trans Z66 Kq88.1
  have hk88 := Nat.le_trans hk66 Kq88.1
  have H_88 := CHv.keep Kq88 (allS (Safe.exa C49.2.1.alike f82 (by decide) (by decide)) (allS sf_o366_66 all0)) H_66
  have R_88 := R_66.trans (CHr.keep Kq88 (allS (Safe.exa C49.2.1.alike f82 (by decide) (by decide)) (allS sf_o366_66 all0)) H_66)
  have sf_o388_88 := Safe.keep Kq88 (allS (Safe.exa C49.2.1.alike f82 (by decide) (by decide)) (allS sf_o366_66 all0)) H_66 (alt_safe szo388 sf_o366_66)
  have sz_o388 : h0.size ≤ o388 := alt_sz szo388 sz_o366 K66.1
  have K88 := K66.trans Kq88 (allS (Or.inr sz_b2) (allS (Or.inr sz_o366) all0))
  refine ret1 ?_
  refine g_ldcCH C49 X88 (n := 4) (z := (1 : Int32)) (vs := [(.int 58)]) (hw _ (List.mem_of_getElem? (i := 127) rfl)) (strAtoms hw) rfl hS49 hk88 hEL (by decide) H_88 ⟨by decide, rfl⟩ (by decide) rfl d8_40 42 (by decide) (by decide) (by decide) (by decide) (fun b109 T109 h109 k109 bb109 ki109 C109 X109 e109 E109 hS109 hk109 fe109 fc109 fv109 fa109 A109 sn109 => ?_)
  have f113 := f98.ext E109
  have f114 := f99.ext E109
  have f115 := f100.ext E109
  have f116 := f101.ext E109
  have f117 := f102.ext E109
  have f118 := f103.ext E109
  have f119 := f104.ext E109
  have f124 := q88_0.ext E109
  have f125 := q88_1.ext E109
  have f126 := q88_2.ext E109
  have f127 := q88_3.ext E109
  have f128 := q88_4.ext E109
  have H_109 := A109.1
  have R_109 := R_88.trans A109
  have sf_o388_109 := A109.safe q88_3.lt sf_o388_88
  have Z109 := Nat.le_trans Z88 E109.1
  have K109 := K88.ext E109
  have f129 : Arv Z h109 bb109 ki109 .byte (Int32.ofNat ([58] : List Int32).length) (([58] : List Int32).map Value.int) (.int 0) := fa109
  refine g_callV C109 X109 (w_80 hw) (w_81 hw) (notFace_of_selects (args := #[]) (mvT C109.2.1 (w_83 hw))) (w_83 hw) (w_82 hw) (w_84 hw) (w_64 hw) f119 d8_42 [(.ref b109)] [] 0 (rm13 hw Z109 f119 f124 f125 f126 f127 f128 fe109 fv109 fc109 f129 f118 gn_b2 gn_o388 hcs p88_c90 p88_ll (by have q1 := decI_length x1; have q2 := decI_length x2; simp only [List.length_append, List.length_cons, List.length_nil]; omega) n89 (sn109 _ (Safe.exa C109.2.1.alike f119 (by decide) (by decide))).1 (sn109 _ (Safe.exa C109.2.1.alike f119 (by decide) (by decide))).2 (sn109 _ sf_o388_109).1 (sn109 _ sf_o388_109).2) pd_21 e109 45 (fun u130 T130 L130 X130 hQ130 => ?_)
  obtain ⟨o3130, kd3130, c3130, rfl, Nq130, szo3130, Kq130, q130_0, q130_1, q130_2, q130_3, q130_4, p130_c90, p130_ll⟩ := hQ130
  have N130 := Fr.app N88 Nq130
  have n132 : b2 ≠ o3130 := alt_ne szo3130 n89 f119.lt
  have n137 : o7 ≠ o3130 := alt_ne szo3130 n93 f116.lt
  have n138 : o8 ≠ o3130 := alt_ne szo3130 n94 f117.lt
  have f142 := f113.keep Kq130 (ninS n3 (ninS n92 nin0))
  have f143 := Sta.keepN f114 Kq130 (allS (Exa.ns f119) (allS (Exa.ns f128) all0))
  have f144 := Sta.keepN f115 Kq130 (allS (Exa.ns f119) (allS (Exa.ns f128) all0))
  have f145 := f116.keep Kq130 (ninS n4 (ninS n93 nin0))
  have f146 := f117.keep Kq130 (ninS n5 (ninS n94 nin0))
  have f147 := Sta.keepN f118 Kq130 (allS (Exa.ns f119) (allS (Exa.ns f128) all0))
  have f148 := f119.keep Kq130
  have gn_o3130 : n0 ≤ o3130 := alt_born szo3130 gn_o388 Z109
  have Z130 := Nat.le_trans Z109 Kq130.1
  have hk130 := Nat.le_trans hk109 Kq130.1
  have H_130 := CHv.keep Kq130 (allS (Safe.exa C109.2.1.alike f119 (by decide) (by decide)) (allS sf_o388_109 all0)) H_109
  have R_130 := R_109.trans (CHr.keep Kq130 (allS (Safe.exa C109.2.1.alike f119 (by decide) (by decide)) (allS sf_o388_109 all0)) H_109)
  have sf_o3130_130 := Safe.keep Kq130 (allS (Safe.exa C109.2.1.alike f119 (by decide) (by decide)) (allS sf_o388_109 all0)) H_109 (alt_safe szo3130 sf_o388_109)
  have sz_o3130 : h0.size ≤ o3130 := alt_sz szo3130 sz_o388 K109.1
  have K130 := K109.trans Kq130 (allS (Or.inr sz_b2) (allS (Or.inr sz_o388) all0))
  refine ret1 ?_
  refine g_aloadN C109 X130 d8_45 46 rfl rfl ?_
  refine g_getF C109 X130 (w_42 hw) Via.refl rfl f142 d8_46 49 (fun T157 X157 e157 => ?_)
  refine g_callV C109 X157 (w_128 hw) (w_129 hw) (notFace_of_selects (args := #[]) (mvT C109.2.1 (w_131 hw))) (w_131 hw) (w_130 hw) (w_132 hw) (w_64 hw) f148 d8_49 [(.int x2)] [] 0 (rm21 hw Z130 f148 q130_0 q130_1 q130_2 q130_3 q130_4 f143 f144 f145 f146 f147 gn_b2 gn_o3130 hcs p130_c90 p130_ll (by have q1 := decI_length x1; have q2 := decI_length x2; simp only [List.length_append, List.length_cons, List.length_nil]; omega) n132 (Ne.symm n4) (Ne.symm n5) (Ne.symm n137) (Ne.symm n138)) pd_22 e157 52 (fun u158 T158 L158 X158 hQ158 => ?_)
  obtain ⟨o3158, kd3158, c3158, rfl, Nq158, szo3158, Kq158, q158_0, q158_1, q158_2, q158_3, q158_4, p158_c90, p158_ll⟩ := hQ158
  have N158 := Fr.app N130 Nq158
  have n160 : b2 ≠ o3158 := alt_ne szo3158 n132 f148.lt
  have f175 := Sta.keepN f147 Kq158 (allS (Exa.ns f148) (allS (Exa.ns q130_4) all0))
  have f176 := f148.keep Kq158
  have Z158 := Nat.le_trans Z130 Kq158.1
  have hk158 := Nat.le_trans hk130 Kq158.1
  have H_158 := CHv.keep Kq158 (allS (Safe.exa C109.2.1.alike f148 (by decide) (by decide)) (allS sf_o3130_130 all0)) H_130
  have R_158 := R_130.trans (CHr.keep Kq158 (allS (Safe.exa C109.2.1.alike f148 (by decide) (by decide)) (allS sf_o3130_130 all0)) H_130)
  have K158 := K130.trans Kq158 (allS (Or.inr sz_b2) (allS (Or.inr sz_o3130) all0))
  refine ret1 ?_
  refine g_callV C109 X158 (w_150 hw) (w_151 hw) (notFace_of_selects (args := #[]) (mvT C109.2.1 (w_153 hw))) (w_153 hw) (w_152 hw) (w_154 hw) (w_64 hw) f176 d8_52 [] [] 0 (rm26 hw Z158 f176 q158_0 q158_1 q158_2 q158_3 q158_4 f175 hcs p158_ll p158_c90 n160) pd_23 rfl 55 (fun u185 T185 L185 X185 hQ185 => ?_)
  obtain ⟨o4185, o3185, kd3185, rfl, Nq185, szo4185, szo3185, Kq185, q185_0, q185_1, q185_2, q185_3⟩ := hQ185
  have N185 := Fr.app N158 Nq185
  have hk185 := Nat.le_trans hk158 Kq185.1
  have H_185 := CHv.keep Kq185 all0 H_158
  have R_185 := R_158.trans (CHr.keep Kq185 all0 H_158)
  have sz_o4185 : h0.size ≤ o4185 := Nat.le_trans K158.1 szo4185
  have sz_o3185 : h0.size ≤ o3185 := Nat.le_trans K158.1 szo3185
  have K185 := K158.trans Kq185 all0
  refine ret1 ?_
  exact g_retAH C109 X185 K hS109 hk185 hEL H_185 R_185 rfl rfl rfl d8_55 (by decide) (by decide) rfl ⟨o4185, o3185, kd3185, rfl, N185, sz_o4185, sz_o3185, K185, q185_0, q185_1, q185_2, q185_3⟩
theorem lt_up {x : Int64} {a b : Int64} (h : x < a) (q : a.toInt < b.toInt) : x < b := by rw [Int64.lt_iff_toInt_lt] at h ⊢; omega
theorem ef_37j (m : MethodId) (a1 : Int64) : entryFrame m #[(.long a1)] 3 = mkF m 0 #[jv a1, sd, uu] [] := by first | (simp [entryFrame, mkF, argsToLocals, Value.category, iv, rv, jv, nv, uu, sd]; done) | rfl
theorem d37_0 : decode method_4_code 0 = .ok (.iconst 1, 1) := by decide +kernel
theorem d37_1 : decode method_4_code 1 = .ok (.istore_n 2, 1) := by decide +kernel
theorem d37_2 : decode method_4_code 2 = .ok (.lload_n 0, 1) := by decide +kernel
theorem d37_3 : decode method_4_code 3 = .ok (.ldc2_w 47, 3) := by decide +kernel
theorem w_198 (hw : OwnW a0 Z) : Cond.before (.constantLong "com/example/mortise/mortise/core/ProblemLocationPinLaw" (47 : Nat) (10 : Int64)) a0 Z = true := wA hw 198 rfl
theorem d37_6 : decode method_4_code 6 = .ok (.lcmp, 1) := by decide +kernel
theorem d37_7 : decode method_4_code 7 = .ok (.ifCond .lt 5, 3) := by decide +kernel
theorem d37_12 : decode method_4_code 12 = .ok (.lload_n 0, 1) := by decide +kernel
theorem d37_13 : decode method_4_code 13 = .ok (.ldc2_w 49, 3) := by decide +kernel
theorem w_199 (hw : OwnW a0 Z) : Cond.before (.constantLong "com/example/mortise/mortise/core/ProblemLocationPinLaw" (49 : Nat) (100 : Int64)) a0 Z = true := wA hw 199 rfl
theorem d37_16 : decode method_4_code 16 = .ok (.lcmp, 1) := by decide +kernel
theorem d37_17 : decode method_4_code 17 = .ok (.ifCond .lt 5, 3) := by decide +kernel
theorem d37_22 : decode method_4_code 22 = .ok (.lload_n 0, 1) := by decide +kernel
theorem d37_23 : decode method_4_code 23 = .ok (.ldc2_w 51, 3) := by decide +kernel
theorem w_200 (hw : OwnW a0 Z) : Cond.before (.constantLong "com/example/mortise/mortise/core/ProblemLocationPinLaw" (51 : Nat) (1000 : Int64)) a0 Z = true := wA hw 200 rfl
theorem d37_26 : decode method_4_code 26 = .ok (.lcmp, 1) := by decide +kernel
theorem d37_27 : decode method_4_code 27 = .ok (.ifCond .lt 5, 3) := by decide +kernel
theorem d37_32 : decode method_4_code 32 = .ok (.lload_n 0, 1) := by decide +kernel
theorem d37_33 : decode method_4_code 33 = .ok (.ldc2_w 53, 3) := by decide +kernel
theorem w_201 (hw : OwnW a0 Z) : Cond.before (.constantLong "com/example/mortise/mortise/core/ProblemLocationPinLaw" (53 : Nat) (10000 : Int64)) a0 Z = true := wA hw 201 rfl
theorem d37_36 : decode method_4_code 36 = .ok (.lcmp, 1) := by decide +kernel
theorem d37_37 : decode method_4_code 37 = .ok (.ifCond .lt 5, 3) := by decide +kernel
theorem d37_42 : decode method_4_code 42 = .ok (.lload_n 0, 1) := by decide +kernel
theorem d37_43 : decode method_4_code 43 = .ok (.ldc2_w 55, 3) := by decide +kernel
theorem w_202 (hw : OwnW a0 Z) : Cond.before (.constantLong "com/example/mortise/mortise/core/ProblemLocationPinLaw" (55 : Nat) (100000 : Int64)) a0 Z = true := wA hw 202 rfl
theorem d37_46 : decode method_4_code 46 = .ok (.lcmp, 1) := by decide +kernel
theorem d37_47 : decode method_4_code 47 = .ok (.ifCond .lt 6, 3) := by decide +kernel
theorem d37_53 : decode method_4_code 53 = .ok (.lload_n 0, 1) := by decide +kernel
theorem d37_54 : decode method_4_code 54 = .ok (.ldc2_w 57, 3) := by decide +kernel
theorem w_203 (hw : OwnW a0 Z) : Cond.before (.constantLong "com/example/mortise/mortise/core/ProblemLocationPinLaw" (57 : Nat) (1000000 : Int64)) a0 Z = true := wA hw 203 rfl
theorem d37_57 : decode method_4_code 57 = .ok (.lcmp, 1) := by decide +kernel
theorem d37_58 : decode method_4_code 58 = .ok (.ifCond .lt 6, 3) := by decide +kernel
theorem d37_64 : decode method_4_code 64 = .ok (.lload_n 0, 1) := by decide +kernel
theorem d37_65 : decode method_4_code 65 = .ok (.ldc2_w 59, 3) := by decide +kernel
theorem w_204 (hw : OwnW a0 Z) : Cond.before (.constantLong "com/example/mortise/mortise/core/ProblemLocationPinLaw" (59 : Nat) (10000000 : Int64)) a0 Z = true := wA hw 204 rfl
theorem d37_68 : decode method_4_code 68 = .ok (.lcmp, 1) := by decide +kernel
theorem d37_69 : decode method_4_code 69 = .ok (.ifCond .lt 6, 3) := by decide +kernel
theorem d37_75 : decode method_4_code 75 = .ok (.lload_n 0, 1) := by decide +kernel
theorem d37_76 : decode method_4_code 76 = .ok (.ldc2_w 61, 3) := by decide +kernel
theorem w_205 (hw : OwnW a0 Z) : Cond.before (.constantLong "com/example/mortise/mortise/core/ProblemLocationPinLaw" (61 : Nat) (100000000 : Int64)) a0 Z = true := wA hw 205 rfl
theorem d37_79 : decode method_4_code 79 = .ok (.lcmp, 1) := by decide +kernel
theorem d37_80 : decode method_4_code 80 = .ok (.ifCond .lt 6, 3) := by decide +kernel
theorem d37_86 : decode method_4_code 86 = .ok (.lload_n 0, 1) := by decide +kernel
theorem d37_87 : decode method_4_code 87 = .ok (.ldc2_w 63, 3) := by decide +kernel
theorem w_206 (hw : OwnW a0 Z) : Cond.before (.constantLong "com/example/mortise/mortise/core/ProblemLocationPinLaw" (63 : Nat) (1000000000 : Int64)) a0 Z = true := wA hw 206 rfl
theorem d37_90 : decode method_4_code 90 = .ok (.lcmp, 1) := by decide +kernel
theorem d37_91 : decode method_4_code 91 = .ok (.ifCond .lt 6, 3) := by decide +kernel
theorem d37_97 : decode method_4_code 97 = .ok (.iload_n 2, 1) := by decide +kernel
theorem d37_98 : decode method_4_code 98 = .ok (.ireturn, 1) := by decide +kernel
theorem d37_10 : decode method_4_code 10 = .ok (.iconst 2, 1) := by decide +kernel
theorem d37_11 : decode method_4_code 11 = .ok (.istore_n 2, 1) := by decide +kernel
theorem d37_20 : decode method_4_code 20 = .ok (.iconst 3, 1) := by decide +kernel
theorem d37_21 : decode method_4_code 21 = .ok (.istore_n 2, 1) := by decide +kernel
theorem d37_30 : decode method_4_code 30 = .ok (.iconst 4, 1) := by decide +kernel
theorem d37_31 : decode method_4_code 31 = .ok (.istore_n 2, 1) := by decide +kernel
theorem d37_40 : decode method_4_code 40 = .ok (.iconst 5, 1) := by decide +kernel
theorem d37_41 : decode method_4_code 41 = .ok (.istore_n 2, 1) := by decide +kernel
theorem d37_50 : decode method_4_code 50 = .ok (.bipush 6, 2) := by decide +kernel
theorem d37_52 : decode method_4_code 52 = .ok (.istore_n 2, 1) := by decide +kernel
theorem d37_61 : decode method_4_code 61 = .ok (.bipush 7, 2) := by decide +kernel
theorem d37_63 : decode method_4_code 63 = .ok (.istore_n 2, 1) := by decide +kernel
theorem d37_72 : decode method_4_code 72 = .ok (.bipush 8, 2) := by decide +kernel
theorem d37_74 : decode method_4_code 74 = .ok (.istore_n 2, 1) := by decide +kernel
theorem d37_83 : decode method_4_code 83 = .ok (.bipush 9, 2) := by decide +kernel
theorem d37_85 : decode method_4_code 85 = .ok (.istore_n 2, 1) := by decide +kernel
theorem d37_94 : decode method_4_code 94 = .ok (.bipush 10, 2) := by decide +kernel
theorem d37_96 : decode method_4_code 96 = .ok (.istore_n 2, 1) := by decide +kernel
def fLen (x0 : Int64) : Int32 := if x0 < (10 : Int64) then (1 : Int32) else if x0 < (100 : Int64) then (2 : Int32) else if x0 < (1000 : Int64) then (3 : Int32) else if x0 < (10000 : Int64) then (4 : Int32) else if x0 < (100000 : Int64) then (5 : Int32) else if x0 < (1000000 : Int64) then (6 : Int32) else if x0 < (10000000 : Int64) then (7 : Int32) else if x0 < (100000000 : Int64) then (8 : Int32) else if x0 < (1000000000 : Int64) then (9 : Int32) else (10 : Int32)
abbrev y37 : MethodName := (⟨"com/example/mortise/mortise/core/ProblemLocationPinLaw", "digits", "(J)I"⟩ : MethodName)
theorem pn_0 : plainName "com/example/mortise/mortise/core/ProblemLocationPinLaw" = true := by first | (simp [plainName, overriddenIn]; done) | decide +kernel
theorem rm37 {x0 : Int64} (hw : OwnW a0 Z) (Z0 : n0 ≤ h0.size) : OwnMF l Z y37 method_4_code 3 (some .int) ws ⟨0, 0, 0, 0⟩ #[(.long x0)] h0 (OwnQ (some (.int (fLen x0))) h0 n0) := by
  refine bo (plainFor_of_name pn_0) ?_
  intro p e s m below meth c T0 G C hnm hnamed X0 e0 K
  have N0 := Fr.nil n0
  refine Goes.to (congrArg T0.setTop (ef_37j m x0)) ?_
  refine g_iconst C X0 d37_0 1 (v := 1) rfl ?_
  refine g_istoreN C X0 d37_1 2 (w := 1) rfl (ls' := #[jv x0, sd, iv 1]) rfl ?_
  refine g_lloadN C X0 d37_2 3 rfl ?_
  refine g_ldc2 C X0 (w_198 hw) d37_3 6 ?_
  refine g_lcmp_lt C X0 d37_6 7 d37_7 12 10 (fun hc7 => ?_) (fun hc7 => ?_)
  · refine g_lloadN C X0 d37_12 13 rfl ?_
    refine g_ldc2 C X0 (w_199 hw) d37_13 16 ?_
    refine g_lcmp_lt C X0 d37_16 17 d37_17 22 20 (fun hc17 => ?_) (fun hc17 => absurd (lt_up hc7 (by decide)) hc17)
    refine g_lloadN C X0 d37_22 23 rfl ?_
    refine g_ldc2 C X0 (w_200 hw) d37_23 26 ?_
    refine g_lcmp_lt C X0 d37_26 27 d37_27 32 30 (fun hc27 => ?_) (fun hc27 => absurd (lt_up hc7 (by decide)) hc27)
    refine g_lloadN C X0 d37_32 33 rfl ?_
    refine g_ldc2 C X0 (w_201 hw) d37_33 36 ?_
    refine g_lcmp_lt C X0 d37_36 37 d37_37 42 40 (fun hc37 => ?_) (fun hc37 => absurd (lt_up hc7 (by decide)) hc37)
    refine g_lloadN C X0 d37_42 43 rfl ?_
    refine g_ldc2 C X0 (w_202 hw) d37_43 46 ?_
    refine g_lcmp_lt C X0 d37_46 47 d37_47 53 50 (fun hc47 => ?_) (fun hc47 => absurd (lt_up hc7 (by decide)) hc47)
    refine g_lloadN C X0 d37_53 54 rfl ?_
    refine g_ldc2 C X0 (w_203 hw) d37_54 57 ?_
    refine g_lcmp_lt C X0 d37_57 58 d37_58 64 61 (fun hc58 => ?_) (fun hc58 => absurd (lt_up hc7 (by decide)) hc58)
    refine g_lloadN C X0 d37_64 65 rfl ?_
    refine g_ldc2 C X0 (w_204 hw) d37_65 68 ?_
    refine g_lcmp_lt C X0 d37_68 69 d37_69 75 72 (fun hc69 => ?_) (fun hc69 => absurd (lt_up hc7 (by decide)) hc69)
    refine g_lloadN C X0 d37_75 76 rfl ?_
    refine g_ldc2 C X0 (w_205 hw) d37_76 79 ?_
    refine g_lcmp_lt C X0 d37_79 80 d37_80 86 83 (fun hc80 => ?_) (fun hc80 => absurd (lt_up hc7 (by decide)) hc80)
    refine g_lloadN C X0 d37_86 87 rfl ?_
    refine g_ldc2 C X0 (w_206 hw) d37_87 90 ?_
    refine g_lcmp_lt C X0 d37_90 91 d37_91 97 94 (fun hc91 => ?_) (fun hc91 => absurd (lt_up hc7 (by decide)) hc91)
    refine g_iloadN C X0 d37_97 98 rfl ?_
    exact g_retI C X0 K d37_98 (by decide) (by decide) e0 ⟨by (unfold fLen; rw [if_pos hc7]) <;> rfl, N0, rfl⟩
  · refine g_iconst C X0 d37_10 11 (v := 2) rfl ?_
    refine g_istoreN C X0 d37_11 12 (w := 2) rfl (ls' := #[jv x0, sd, iv 2]) rfl ?_
    refine g_lloadN C X0 d37_12 13 rfl ?_
    refine g_ldc2 C X0 (w_199 hw) d37_13 16 ?_
    refine g_lcmp_lt C X0 d37_16 17 d37_17 22 20 (fun hc17 => ?_) (fun hc17 => ?_)
    · refine g_lloadN C X0 d37_22 23 rfl ?_
      refine g_ldc2 C X0 (w_200 hw) d37_23 26 ?_
      refine g_lcmp_lt C X0 d37_26 27 d37_27 32 30 (fun hc27 => ?_) (fun hc27 => absurd (lt_up hc17 (by decide)) hc27)
      refine g_lloadN C X0 d37_32 33 rfl ?_
      refine g_ldc2 C X0 (w_201 hw) d37_33 36 ?_
      refine g_lcmp_lt C X0 d37_36 37 d37_37 42 40 (fun hc37 => ?_) (fun hc37 => absurd (lt_up hc17 (by decide)) hc37)
      refine g_lloadN C X0 d37_42 43 rfl ?_
      refine g_ldc2 C X0 (w_202 hw) d37_43 46 ?_
      refine g_lcmp_lt C X0 d37_46 47 d37_47 53 50 (fun hc47 => ?_) (fun hc47 => absurd (lt_up hc17 (by decide)) hc47)
      refine g_lloadN C X0 d37_53 54 rfl ?_
      refine g_ldc2 C X0 (w_203 hw) d37_54 57 ?_
      refine g_lcmp_lt C X0 d37_57 58 d37_58 64 61 (fun hc58 => ?_) (fun hc58 => absurd (lt_up hc17 (by decide)) hc58)
      refine g_lloadN C X0 d37_64 65 rfl ?_
      refine g_ldc2 C X0 (w_204 hw) d37_65 68 ?_
      refine g_lcmp_lt C X0 d37_68 69 d37_69 75 72 (fun hc69 => ?_) (fun hc69 => absurd (lt_up hc17 (by decide)) hc69)
      refine g_lloadN C X0 d37_75 76 rfl ?_
      refine g_ldc2 C X0 (w_205 hw) d37_76 79 ?_
      refine g_lcmp_lt C X0 d37_79 80 d37_80 86 83 (fun hc80 => ?_) (fun hc80 => absurd (lt_up hc17 (by decide)) hc80)
      refine g_lloadN C X0 d37_86 87 rfl ?_
      refine g_ldc2 C X0 (w_206 hw) d37_87 90 ?_
      refine g_lcmp_lt C X0 d37_90 91 d37_91 97 94 (fun hc91 => ?_) (fun hc91 => absurd (lt_up hc17 (by decide)) hc91)
      refine g_iloadN C X0 d37_97 98 rfl ?_
      exact g_retI C X0 K d37_98 (by decide) (by decide) e0 ⟨by (unfold fLen; rw [if_neg hc7, if_pos hc17]) <;> rfl, N0, rfl⟩
    · refine g_iconst C X0 d37_20 21 (v := 3) rfl ?_
      refine g_istoreN C X0 d37_21 22 (w := 3) rfl (ls' := #[jv x0, sd, iv 3]) rfl ?_
      refine g_lloadN C X0 d37_22 23 rfl ?_
      refine g_ldc2 C X0 (w_200 hw) d37_23 26 ?_
      refine g_lcmp_lt C X0 d37_26 27 d37_27 32 30 (fun hc27 => ?_) (fun hc27 => ?_)
      · refine g_lloadN C X0 d37_32 33 rfl ?_
        refine g_ldc2 C X0 (w_201 hw) d37_33 36 ?_
        refine g_lcmp_lt C X0 d37_36 37 d37_37 42 40 (fun hc37 => ?_) (fun hc37 => absurd (lt_up hc27 (by decide)) hc37)
        refine g_lloadN C X0 d37_42 43 rfl ?_
        refine g_ldc2 C X0 (w_202 hw) d37_43 46 ?_
        refine g_lcmp_lt C X0 d37_46 47 d37_47 53 50 (fun hc47 => ?_) (fun hc47 => absurd (lt_up hc27 (by decide)) hc47)
        refine g_lloadN C X0 d37_53 54 rfl ?_
        refine g_ldc2 C X0 (w_203 hw) d37_54 57 ?_
        refine g_lcmp_lt C X0 d37_57 58 d37_58 64 61 (fun hc58 => ?_) (fun hc58 => absurd (lt_up hc27 (by decide)) hc58)
        refine g_lloadN C X0 d37_64 65 rfl ?_
        refine g_ldc2 C X0 (w_204 hw) d37_65 68 ?_
        refine g_lcmp_lt C X0 d37_68 69 d37_69 75 72 (fun hc69 => ?_) (fun hc69 => absurd (lt_up hc27 (by decide)) hc69)
        refine g_lloadN C X0 d37_75 76 rfl ?_
        refine g_ldc2 C X0 (w_205 hw) d37_76 79 ?_
        refine g_lcmp_lt C X0 d37_79 80 d37_80 86 83 (fun hc80 => ?_) (fun hc80 => absurd (lt_up hc27 (by decide)) hc80)
        refine g_lloadN C X0 d37_86 87 rfl ?_
        refine g_ldc2 C X0 (w_206 hw) d37_87 90 ?_
        refine g_lcmp_lt C X0 d37_90 91 d37_91 97 94 (fun hc91 => ?_) (fun hc91 => absurd (lt_up hc27 (by decide)) hc91)
        refine g_iloadN C X0 d37_97 98 rfl ?_
        exact g_retI C X0 K d37_98 (by decide) (by decide) e0 ⟨by (unfold fLen; rw [if_neg hc7, if_neg hc17, if_pos hc27]) <;> rfl, N0, rfl⟩
      · refine g_iconst C X0 d37_30 31 (v := 4) rfl ?_
        refine g_istoreN C X0 d37_31 32 (w := 4) rfl (ls' := #[jv x0, sd, iv 4]) rfl ?_
        refine g_lloadN C X0 d37_32 33 rfl ?_
        refine g_ldc2 C X0 (w_201 hw) d37_33 36 ?_
        refine g_lcmp_lt C X0 d37_36 37 d37_37 42 40 (fun hc37 => ?_) (fun hc37 => ?_)
        · refine g_lloadN C X0 d37_42 43 rfl ?_
          refine g_ldc2 C X0 (w_202 hw) d37_43 46 ?_
          refine g_lcmp_lt C X0 d37_46 47 d37_47 53 50 (fun hc47 => ?_) (fun hc47 => absurd (lt_up hc37 (by decide)) hc47)
          refine g_lloadN C X0 d37_53 54 rfl ?_
          refine g_ldc2 C X0 (w_203 hw) d37_54 57 ?_
          refine g_lcmp_lt C X0 d37_57 58 d37_58 64 61 (fun hc58 => ?_) (fun hc58 => absurd (lt_up hc37 (by decide)) hc58)
          refine g_lloadN C X0 d37_64 65 rfl ?_
          refine g_ldc2 C X0 (w_204 hw) d37_65 68 ?_
          refine g_lcmp_lt C X0 d37_68 69 d37_69 75 72 (fun hc69 => ?_) (fun hc69 => absurd (lt_up hc37 (by decide)) hc69)
          refine g_lloadN C X0 d37_75 76 rfl ?_
          refine g_ldc2 C X0 (w_205 hw) d37_76 79 ?_
          refine g_lcmp_lt C X0 d37_79 80 d37_80 86 83 (fun hc80 => ?_) (fun hc80 => absurd (lt_up hc37 (by decide)) hc80)
          refine g_lloadN C X0 d37_86 87 rfl ?_
          refine g_ldc2 C X0 (w_206 hw) d37_87 90 ?_
          refine g_lcmp_lt C X0 d37_90 91 d37_91 97 94 (fun hc91 => ?_) (fun hc91 => absurd (lt_up hc37 (by decide)) hc91)
          refine g_iloadN C X0 d37_97 98 rfl ?_
          exact g_retI C X0 K d37_98 (by decide) (by decide) e0 ⟨by (unfold fLen; rw [if_neg hc7, if_neg hc17, if_neg hc27, if_pos hc37]) <;> rfl, N0, rfl⟩
        · refine g_iconst C X0 d37_40 41 (v := 5) rfl ?_
          refine g_istoreN C X0 d37_41 42 (w := 5) rfl (ls' := #[jv x0, sd, iv 5]) rfl ?_
          refine g_lloadN C X0 d37_42 43 rfl ?_
          refine g_ldc2 C X0 (w_202 hw) d37_43 46 ?_
          refine g_lcmp_lt C X0 d37_46 47 d37_47 53 50 (fun hc47 => ?_) (fun hc47 => ?_)
          · refine g_lloadN C X0 d37_53 54 rfl ?_
            refine g_ldc2 C X0 (w_203 hw) d37_54 57 ?_
            refine g_lcmp_lt C X0 d37_57 58 d37_58 64 61 (fun hc58 => ?_) (fun hc58 => absurd (lt_up hc47 (by decide)) hc58)
            refine g_lloadN C X0 d37_64 65 rfl ?_
            refine g_ldc2 C X0 (w_204 hw) d37_65 68 ?_
            refine g_lcmp_lt C X0 d37_68 69 d37_69 75 72 (fun hc69 => ?_) (fun hc69 => absurd (lt_up hc47 (by decide)) hc69)
            refine g_lloadN C X0 d37_75 76 rfl ?_
            refine g_ldc2 C X0 (w_205 hw) d37_76 79 ?_
            refine g_lcmp_lt C X0 d37_79 80 d37_80 86 83 (fun hc80 => ?_) (fun hc80 => absurd (lt_up hc47 (by decide)) hc80)
            refine g_lloadN C X0 d37_86 87 rfl ?_
            refine g_ldc2 C X0 (w_206 hw) d37_87 90 ?_
            refine g_lcmp_lt C X0 d37_90 91 d37_91 97 94 (fun hc91 => ?_) (fun hc91 => absurd (lt_up hc47 (by decide)) hc91)
            refine g_iloadN C X0 d37_97 98 rfl ?_
            exact g_retI C X0 K d37_98 (by decide) (by decide) e0 ⟨by (unfold fLen; rw [if_neg hc7, if_neg hc17, if_neg hc27, if_neg hc37, if_pos hc47]) <;> rfl, N0, rfl⟩
          · refine g_bipush C X0 d37_50 52 (v := 6) rfl ?_
            refine g_istoreN C X0 d37_52 53 (w := 6) rfl (ls' := #[jv x0, sd, iv 6]) rfl ?_
            refine g_lloadN C X0 d37_53 54 rfl ?_
            refine g_ldc2 C X0 (w_203 hw) d37_54 57 ?_
            refine g_lcmp_lt C X0 d37_57 58 d37_58 64 61 (fun hc58 => ?_) (fun hc58 => ?_)
            · refine g_lloadN C X0 d37_64 65 rfl ?_
              refine g_ldc2 C X0 (w_204 hw) d37_65 68 ?_
              refine g_lcmp_lt C X0 d37_68 69 d37_69 75 72 (fun hc69 => ?_) (fun hc69 => absurd (lt_up hc58 (by decide)) hc69)
              refine g_lloadN C X0 d37_75 76 rfl ?_
              refine g_ldc2 C X0 (w_205 hw) d37_76 79 ?_
              refine g_lcmp_lt C X0 d37_79 80 d37_80 86 83 (fun hc80 => ?_) (fun hc80 => absurd (lt_up hc58 (by decide)) hc80)
              refine g_lloadN C X0 d37_86 87 rfl ?_
              refine g_ldc2 C X0 (w_206 hw) d37_87 90 ?_
              refine g_lcmp_lt C X0 d37_90 91 d37_91 97 94 (fun hc91 => ?_) (fun hc91 => absurd (lt_up hc58 (by decide)) hc91)
              refine g_iloadN C X0 d37_97 98 rfl ?_
              exact g_retI C X0 K d37_98 (by decide) (by decide) e0 ⟨by (unfold fLen; rw [if_neg hc7, if_neg hc17, if_neg hc27, if_neg hc37, if_neg hc47, if_pos hc58]) <;> rfl, N0, rfl⟩
            · refine g_bipush C X0 d37_61 63 (v := 7) rfl ?_
              refine g_istoreN C X0 d37_63 64 (w := 7) rfl (ls' := #[jv x0, sd, iv 7]) rfl ?_
              refine g_lloadN C X0 d37_64 65 rfl ?_
              refine g_ldc2 C X0 (w_204 hw) d37_65 68 ?_
              refine g_lcmp_lt C X0 d37_68 69 d37_69 75 72 (fun hc69 => ?_) (fun hc69 => ?_)
              · refine g_lloadN C X0 d37_75 76 rfl ?_
                refine g_ldc2 C X0 (w_205 hw) d37_76 79 ?_
                refine g_lcmp_lt C X0 d37_79 80 d37_80 86 83 (fun hc80 => ?_) (fun hc80 => absurd (lt_up hc69 (by decide)) hc80)
                refine g_lloadN C X0 d37_86 87 rfl ?_
                refine g_ldc2 C X0 (w_206 hw) d37_87 90 ?_
                refine g_lcmp_lt C X0 d37_90 91 d37_91 97 94 (fun hc91 => ?_) (fun hc91 => absurd (lt_up hc69 (by decide)) hc91)
                refine g_iloadN C X0 d37_97 98 rfl ?_
                exact g_retI C X0 K d37_98 (by decide) (by decide) e0 ⟨by (unfold fLen; rw [if_neg hc7, if_neg hc17, if_neg hc27, if_neg hc37, if_neg hc47, if_neg hc58, if_pos hc69]) <;> rfl, N0, rfl⟩
              · refine g_bipush C X0 d37_72 74 (v := 8) rfl ?_
                refine g_istoreN C X0 d37_74 75 (w := 8) rfl (ls' := #[jv x0, sd, iv 8]) rfl ?_
                refine g_lloadN C X0 d37_75 76 rfl ?_
                refine g_ldc2 C X0 (w_205 hw) d37_76 79 ?_
                refine g_lcmp_lt C X0 d37_79 80 d37_80 86 83 (fun hc80 => ?_) (fun hc80 => ?_)
                · refine g_lloadN C X0 d37_86 87 rfl ?_
                  refine g_ldc2 C X0 (w_206 hw) d37_87 90 ?_
                  refine g_lcmp_lt C X0 d37_90 91 d37_91 97 94 (fun hc91 => ?_) (fun hc91 => absurd (lt_up hc80 (by decide)) hc91)
                  refine g_iloadN C X0 d37_97 98 rfl ?_
                  exact g_retI C X0 K d37_98 (by decide) (by decide) e0 ⟨by (unfold fLen; rw [if_neg hc7, if_neg hc17, if_neg hc27, if_neg hc37, if_neg hc47, if_neg hc58, if_neg hc69, if_pos hc80]) <;> rfl, N0, rfl⟩
                · refine g_bipush C X0 d37_83 85 (v := 9) rfl ?_
                  refine g_istoreN C X0 d37_85 86 (w := 9) rfl (ls' := #[jv x0, sd, iv 9]) rfl ?_
                  refine g_lloadN C X0 d37_86 87 rfl ?_
                  refine g_ldc2 C X0 (w_206 hw) d37_87 90 ?_
                  refine g_lcmp_lt C X0 d37_90 91 d37_91 97 94 (fun hc91 => ?_) (fun hc91 => ?_)
                  · refine g_iloadN C X0 d37_97 98 rfl ?_
                    exact g_retI C X0 K d37_98 (by decide) (by decide) e0 ⟨by (unfold fLen; rw [if_neg hc7, if_neg hc17, if_neg hc27, if_neg hc37, if_neg hc47, if_neg hc58, if_neg hc69, if_neg hc80, if_pos hc91]) <;> rfl, N0, rfl⟩
                  · refine g_bipush C X0 d37_94 96 (v := 10) rfl ?_
                    refine g_istoreN C X0 d37_96 97 (w := 10) rfl (ls' := #[jv x0, sd, iv 10]) rfl ?_
                    refine g_iloadN C X0 d37_97 98 rfl ?_
                    exact g_retI C X0 K d37_98 (by decide) (by decide) e0 ⟨by (unfold fLen; rw [if_neg hc7, if_neg hc17, if_neg hc27, if_neg hc37, if_neg hc47, if_neg hc58, if_neg hc69, if_neg hc80, if_neg hc91]) <;> rfl, N0, rfl⟩
theorem len_eq {n : Nat} {v : Int64} (hv : v.toInt = (n : Int)) : fLen v = Int32.ofNat (dg n) := by
  have key : ∀ (k : Int64) (c : Nat), k.toInt = (c : Int) → (v < k ↔ n < c) := by intro k c hk; rw [Int64.lt_iff_toInt_lt, hv, hk]; omega
  unfold fLen dg
  simp only [key (10 : Int64) 10 (by decide), key (100 : Int64) 100 (by decide), key (1000 : Int64) 1000 (by decide), key (10000 : Int64) 10000 (by decide), key (100000 : Int64) 100000 (by decide), key (1000000 : Int64) 1000000 (by decide), key (10000000 : Int64) 10000000 (by decide), key (100000000 : Int64) 100000000 (by decide), key (1000000000 : Int64) 1000000000 (by decide)]
  repeat' split
  all_goals rfl
theorem p10_in {j : Nat} {i : Int32} (hi : Int32.ofNat j = i) (h : j < 10) : ¬ i < 0 ∧ i < (10 : Int32) := hi ▸ i_in j 10 h (by omega)
theorem p10_get {j : Nat} {i : Int32} (hi : Int32.ofNat j = i) (h : j < 10) : ([.long (1 : Int64), .long (10 : Int64), .long (100 : Int64), .long (1000 : Int64), .long (10000 : Int64), .long (100000 : Int64), .long (1000000 : Int64), .long (10000000 : Int64), .long (100000000 : Int64), .long (1000000000 : Int64)] : List Value).getD i.toNatClampNeg (.long (0 : Int64)) = .long (Int64.ofNat (10 ^ j)) := by
  subst hi; rw [i_toNat _ (by omega)]
  have hc : j = 0 ∨ j = 1 ∨ j = 2 ∨ j = 3 ∨ j = 4 ∨ j = 5 ∨ j = 6 ∨ j = 7 ∨ j = 8 ∨ j = 9 := by omega
  rcases hc with rfl | rfl | rfl | rfl | rfl | rfl | rfl | rfl | rfl | rfl <;> rfl
theorem p10_toInt {j : Nat} (h : j < 10) : (Int64.ofNat (10 ^ j)).toInt = ((10 ^ j : Nat) : Int) := by
  have hc : j = 0 ∨ j = 1 ∨ j = 2 ∨ j = 3 ∨ j = 4 ∨ j = 5 ∨ j = 6 ∨ j = 7 ∨ j = 8 ∨ j = 9 := by omega
  rcases hc with rfl | rfl | rfl | rfl | rfl | rfl | rfl | rfl | rfl | rfl <;> rfl
theorem p10_ne {j : Nat} (h : j < 10) : Int64.ofNat (10 ^ j) ≠ 0 := fun q => by
  have e := p10_toInt h
  rw [q] at e
  have : (0 : Int) = ((10 ^ j : Nat) : Int) := e
  have : 0 < 10 ^ j := Nat.pow_pos (by decide)
  omega
theorem dig_val {n j : Nat} {v : Int64} (hv : v.toInt = (n : Int)) (hn : n ≤ 2 ^ 31) (h : j < 10) : ((v / Int64.ofNat (10 ^ j)) - (v / Int64.ofNat (10 ^ j)) / (10 : Int64) * (10 : Int64)).toInt32 = Int32.ofNat (n / 10 ^ j % 10) := by
  have e1 : (v / Int64.ofNat (10 ^ j)).toInt = ((n / 10 ^ j : Nat) : Int) := by
    rw [Int64.toInt_div, hv, p10_toInt h, Int.tdiv_eq_ediv_of_nonneg (by omega), ← Int.natCast_ediv]
    have h2 : n / 10 ^ j ≤ 2 ^ 31 := Nat.le_trans (Nat.div_le_self _ _) hn
    generalize n / 10 ^ j = q at h2 ⊢
    rw [Int.bmod_eq_of_le (by omega) (by omega)]
  have hq : n / 10 ^ j ≤ 2 ^ 31 := Nat.le_trans (Nat.div_le_self _ _) hn
  generalize v / Int64.ofNat (10 ^ j) = w at e1
  generalize n / 10 ^ j = q at e1 hq
  have e2 : (w / (10 : Int64)).toInt = ((q / 10 : Nat) : Int) := by
    rw [Int64.toInt_div, e1, show (10 : Int64).toInt = 10 from rfl, Int.tdiv_eq_ediv_of_nonneg (by omega), Int.bmod_eq_of_le (by omega) (by omega)]; omega
  have e3 : (w - w / (10 : Int64) * (10 : Int64)).toInt = ((q % 10 : Nat) : Int) := by
    rw [Int64.toInt_sub, Int64.toInt_mul, e1, e2, show (10 : Int64).toInt = 10 from rfl, Int.bmod_eq_of_le (n := ((q / 10 : Nat) : Int) * 10) (by omega) (by omega), Int.bmod_eq_of_le (by omega) (by omega)]; omega
  rw [← Int32.toInt_inj, Int64.toInt_toInt32, e3, i_toInt _ (by omega), Int.bmod_eq_of_le (by omega) (by omega)]
theorem ix_lt {j d : Nat} {a b : Int32} (hj : Int32.ofNat j = a) (hd : Int32.ofNat d = b) (h1 : j < 2 ^ 31) (h2 : d < 2 ^ 31) (h : a < b) : j < d := by subst hj hd; exact (i_lt j d h1 h2).mp h
theorem dig_sub {j d : Nat} {a b : Int32} (hj : Int32.ofNat j = a) (hd : Int32.ofNat d = b) (h : j < d) : Int32.ofNat (d - 1 - j) = (b - (1 : Int32)) - a := by
  subst hj hd; rw [show (1 : Int32) = Int32.ofNat 1 from rfl, i_sub d 1 (by omega), i_sub (d - 1) j (by omega)]
theorem own_ch_fin2 : ∀ d : Fin 10, own_ch (ch d.val) = ((48 : Int32) + Int32.ofNat d.val).toUInt32.toUInt16.toUInt32.toInt32 := by decide +kernel
theorem dig_cmp {x : Int32} {d : Nat} (h : d < 10) (hx : x = ch d) : own_ch x = ((48 : Int32) + Int32.ofNat d).toUInt32.toUInt16.toUInt32.toInt32 := hx ▸ own_ch_fin2 ⟨d, h⟩
def DigAt (l : List Int32) (p n : Nat) : Prop := ∀ t, t < dg n → l.getD (p + t) 0 = ch (n / 10 ^ (dg n - 1 - t) % 10)
def TxtAt (l : List Int32) (p : Nat) (l5 : List Int32) : Prop := ∀ t, t < l5.length → l.getD (p + t) 0 = l5.getD t 0
theorem own_nc (x : Int32) : ¬ (255 : Int32) < nar .char (x &&& 255).toUInt32.toUInt16.toUInt32.toInt32 := by rw [own_narc (own_c255 x)]; exact (own_c255 x).2
theorem i64p {x : Int32} {n : Nat} (hx : ¬ x < 0) (h : x.toInt.natAbs = n) : x.toInt64.toInt = (n : Int) := by
  rw [Int32.toInt_toInt64]; rw [Int32.lt_iff_toInt_lt] at hx; have : ¬ x.toInt < 0 := hx; omega
theorem i64n {x : Int32} {n : Nat} (hx : x < 0) (h : x.toInt.natAbs = n) : (-x.toInt64).toInt = (n : Int) := by
  have h1 := Int32.toInt_lt x; have h2 := Int32.le_toInt x
  rw [Int64.toInt_neg, Int32.toInt_toInt64]; rw [Int32.lt_iff_toInt_lt] at hx; have : x.toInt < 0 := hx
  rw [Int.bmod_eq_of_le (by omega) (by omega)]; omega
theorem posn {x : Int32} (h : (0 : Int32) < x) : ¬ x < 0 := fun q => by
  rw [Int32.lt_iff_toInt_lt] at h q; omega

theorem nar_chc_fin : ∀ d : Fin 10, nar .char ((48 : Int32) + Int32.ofNat d.val).toUInt32.toUInt16.toUInt32.toInt32 = ch d.val := by decide +kernel
theorem nar_chc {d : Nat} (h : d < 10) : nar .char ((48 : Int32) + Int32.ofNat d).toUInt32.toUInt16.toUInt32.toInt32 = ch d := nar_chc_fin ⟨d, h⟩
theorem low_get (n j i : Nat) (h : i < j) : (low n j)[i]? = some (ch (n / 10 ^ (j - 1 - i) % 10)) := by
  have hl : i < (low n j).length := by rw [low_length]; exact h
  have := low_getD n j i h 0
  rw [List.getD_eq_getElem?_getD, List.getElem?_eq_getElem hl, Option.getD_some] at this
  rw [List.getElem?_eq_getElem hl, this]
theorem one_len {l1 l2 : List Int32} {n j : Nat} (h : l2 = l1 ++ (low n (dg n)).take j) (hj : j < dg n) : l2.length = l1.length + j := by
  rw [h, List.length_append, List.length_take, low_length, Nat.min_eq_left (Nat.le_of_lt hj)]
theorem one_lt {l1 l2 : List Int32} {n j : Nat} (h : l2 = l1 ++ (low n (dg n)).take j) (hj : j < dg n) : l2 ++ [ch (n / 10 ^ (dg n - 1 - j) % 10)] = l1 ++ (low n (dg n)).take (j + 1) := by
  rw [h, List.take_add_one, low_get n _ j hj, List.append_assoc]; rfl
theorem one_ge {l1 l2 : List Int32} {n j : Nat} (h : l2 = l1 ++ (low n (dg n)).take j) (hj : ¬ j < dg n) : l1 ++ (low n (dg n)).take (j + 1) = l2 := by
  rw [h, List.take_of_length_le (by rw [low_length]; omega), List.take_of_length_le (by rw [low_length]; omega)]
theorem one_ix {l1 : List Int32} {j : Nat} {a b : Int32} (hp : Int32.ofNat l1.length = a) (hj : Int32.ofNat j = b) : Int32.ofNat (l1.length + j) = a + b := by rw [← i_add, hp, hj]
theorem ix_ge {j d : Nat} {a b : Int32} (hj : Int32.ofNat j = a) (hd : Int32.ofNat d = b) (h1 : j < 2 ^ 31) (h2 : d < 2 ^ 31) (h : ¬ a < b) : ¬ j < d := fun q => h (by subst hj hd; exact (i_lt j d h1 h2).mpr q)
theorem put_p {l1 : List Int32} {a x : Int32} (hp : Int32.ofNat l1.length = a) : Int32.ofNat (l1 ++ [x]).length = a + (1 : Int32) := by rw [List.length_append, ← hp]; exact (i_add _ 1).symm
theorem l0 (x : Int32) : x.toInt64 < (0 : Int64) ↔ x < 0 := by rw [Int64.lt_iff_toInt_lt, Int32.toInt_toInt64, Int32.lt_iff_toInt_lt]; exact Iff.rfl
theorem put_n {l1 : List Int32} {n : Nat} {x : Int32} (hN : x.toInt.natAbs = n) (h : x < 0) : (l1 ++ [45]) ++ (low n (dg n)).take (9 + 1) = l1 ++ decI x := by
  rw [(gc_szn hN h).2, List.take_of_length_le (by rw [low_length]; exact (dg_pos n).2), List.append_assoc]; rfl
theorem put_q {l1 : List Int32} {n : Nat} {x : Int32} (hN : x.toInt.natAbs = n) (h : ¬ x < 0) : l1 ++ (low n (dg n)).take (9 + 1) = l1 ++ decI x := by
  rw [(gc_szp hN h).2, List.take_of_length_le (by rw [low_length]; exact (dg_pos n).2)]
theorem put_vn {l1 : List Int32} {n : Nat} {x a : Int32} (hp : Int32.ofNat l1.length = a) (hN : x.toInt.natAbs = n) (h : x < 0) : (a + (1 : Int32)) + Int32.ofNat (dg n) = Int32.ofNat (l1 ++ decI x).length := by
  rw [← put_n hN h, List.length_append, ← i_add, ← put_p (x := 45) hp, List.length_take, low_length, Nat.min_eq_right (dg_pos n).2]
theorem put_vq {l1 : List Int32} {n : Nat} {x a : Int32} (hp : Int32.ofNat l1.length = a) (hN : x.toInt.natAbs = n) (h : ¬ x < 0) : a + Int32.ofNat (dg n) = Int32.ofNat (l1 ++ decI x).length := by
  rw [← put_q hN h, List.length_append, ← i_add, ← hp, List.length_take, low_length, Nat.min_eq_right (dg_pos n).2]
theorem map_own_get (l : List Int32) {j : Nat} (h : j < l.length) : own_ch (l.getD j 0) = (l.map own_ch).getD j 0 := by
  rw [List.getD_eq_getElem?_getD, List.getD_eq_getElem?_getD, List.getElem?_map, List.getElem?_eq_getElem h]; rfl
theorem own_chd : ∀ d : Fin 10, own_ch (ch d.val) = ch d.val := by decide +kernel
theorem low_own (n j : Nat) : (low n j).map own_ch = low n j := by induction j with
  | zero => rfl
  | succ j ih => rw [low, List.map_cons, ih, own_chd ⟨_, Nat.mod_lt _ (by decide)⟩]
theorem decI_own (x : Int32) : (decI x).map own_ch = decI x := by
  unfold decI sgn
  rw [List.map_append, low_own]
  split <;> rfl

theorem ef_44iin (m : MethodId) (a1 : Int32) (a2 : Int32) : entryFrame m #[(.int a1), (.int a2), .null] 3 = mkF m 0 #[iv a1, iv a2, nv] [] := by first | (simp [entryFrame, mkF, argsToLocals, Value.category, iv, rv, jv, nv, uu, sd]; done) | rfl
theorem d44_0 : decode jdk_41_method_11_code 0 = .ok (.iload_n 0, 1) := by decide +kernel
theorem d44_1 : decode jdk_41_method_11_code 1 = .ok (.ifCond .lt 8, 3) := by decide +kernel
theorem d44_4 : decode jdk_41_method_11_code 4 = .ok (.iload_n 0, 1) := by decide +kernel
theorem d44_5 : decode jdk_41_method_11_code 5 = .ok (.iload_n 1, 1) := by decide +kernel
theorem d44_6 : decode jdk_41_method_11_code 6 = .ok (.if_icmp .lt 10, 3) := by decide +kernel
theorem d44_16 : decode jdk_41_method_11_code 16 = .ok (.iload_n 0, 1) := by decide +kernel
theorem d44_17 : decode jdk_41_method_11_code 17 = .ok (.ireturn, 1) := by decide +kernel
abbrev y44 : MethodName := (⟨"jdk/internal/util/Preconditions", "checkIndex", "(IILjava/util/function/BiFunction;)I"⟩ : MethodName)
theorem pn_44 : plainName "jdk/internal/util/Preconditions" = true := by first | (simp [plainName, overriddenIn]; done) | decide +kernel
theorem rm44_sn {i1 bn1 : Int32} (hw : OwnW a0 Z) (Z0 : n0 ≤ h0.size) (hb1 : ¬ i1 < (0 : Int32)) (hb2 : i1 < bn1) : OwnMF l Z y44 jdk_41_method_11_code 3 (some .int) ws ⟨0, 0, 0, 0⟩ #[(.int i1), (.int bn1), .null] h0 (OwnQ (some (.int i1)) h0 n0) := by
  refine bo (plainFor_of_name pn_44) ?_
  intro p e s m below meth c T0 G C hnm hnamed X0 e0 K
  have N0 := Fr.nil n0
  refine Goes.to (congrArg T0.setTop (ef_44iin m i1 bn1)) ?_
  refine g_iloadN C X0 d44_0 1 rfl ?_
  refine g_if_lt C X0 d44_1 9 4 (fun hc1 => absurd hc1 hb1) (fun hc1 => ?_)
  refine g_iloadN C X0 d44_4 5 rfl ?_
  refine g_iloadN C X0 d44_5 6 rfl ?_
  refine g_icmp_lt C X0 d44_6 16 9 (fun hc6 => ?_) (fun hc6 => absurd hb2 hc6)
  refine g_iloadN C X0 d44_16 17 rfl ?_
  exact g_retI C X0 K d44_17 (by decide) (by decide) e0 ⟨rfl, N0, rfl⟩
theorem ef_44iir (m : MethodId) (a1 : Int32) (a2 : Int32) (a3 : Addr) : entryFrame m #[(.int a1), (.int a2), (.ref a3)] 3 = mkF m 0 #[iv a1, iv a2, rv a3] [] := by first | (simp [entryFrame, mkF, argsToLocals, Value.category, iv, rv, jv, nv, uu, sd]; done) | rfl
theorem rm44_sr {i1 bn1 : Int32} {o1 : Addr} (hw : OwnW a0 Z) (Z0 : n0 ≤ h0.size) (hb1 : ¬ i1 < (0 : Int32)) (hb2 : i1 < bn1) : OwnMF l Z y44 jdk_41_method_11_code 3 (some .int) ws ⟨0, 0, 0, 0⟩ #[(.int i1), (.int bn1), (.ref o1)] h0 (OwnQ (some (.int i1)) h0 n0) := by
  refine bo (plainFor_of_name pn_44) ?_
  intro p e s m below meth c T0 G C hnm hnamed X0 e0 K
  have N0 := Fr.nil n0
  refine Goes.to (congrArg T0.setTop (ef_44iir m i1 bn1 o1)) ?_
  refine g_iloadN C X0 d44_0 1 rfl ?_
  refine g_if_lt C X0 d44_1 9 4 (fun hc1 => absurd hc1 hb1) (fun hc1 => ?_)
  refine g_iloadN C X0 d44_4 5 rfl ?_
  refine g_iloadN C X0 d44_5 6 rfl ?_
  refine g_icmp_lt C X0 d44_6 16 9 (fun hc6 => ?_) (fun hc6 => absurd hb2 hc6)
  refine g_iloadN C X0 d44_16 17 rfl ?_
  exact g_retI C X0 K d44_17 (by decide) (by decide) e0 ⟨rfl, N0, rfl⟩
theorem ef_43ii (m : MethodId) (a1 : Int32) (a2 : Int32) : entryFrame m #[(.int a1), (.int a2)] 2 = mkF m 0 #[iv a1, iv a2] [] := by first | (simp [entryFrame, mkF, argsToLocals, Value.category, iv, rv, jv, nv, uu, sd]; done) | rfl
theorem d43_0 : decode jdk_42_method_155_code 0 = .ok (.iload_n 0, 1) := by decide +kernel
theorem d43_1 : decode jdk_42_method_155_code 1 = .ok (.iload_n 1, 1) := by decide +kernel
theorem d43_2 : decode jdk_42_method_155_code 2 = .ok (.getstatic 1053, 3) := by decide +kernel
theorem w_231 (hw : OwnW a0 Z) : Cond.before (.fieldLink "java/lang/String" (1053 : Nat) "jdk/internal/util/Preconditions" "SIOOBE_FORMATTER" "Ljava/util/function/BiFunction;") a0 Z = true := wA hw 231 rfl
theorem d43_5 : decode jdk_42_method_155_code 5 = .ok (.invokestatic 1059, 3) := by decide +kernel
theorem w_235 (hw : OwnW a0 Z) : Cond.before (.code ⟨"jdk/internal/util/Preconditions", "checkIndex", "(IILjava/util/function/BiFunction;)I"⟩ jdk_41_method_11_code (3 : Nat) (Option.some Jvm.ClassFile.FieldType.int)) a0 Z = true := wA hw 235 rfl
theorem w_232 (hw : OwnW a0 Z) : Cond.before (.initialized "jdk/internal/util/Preconditions") a0 Z = true := wA hw 232 rfl
theorem w_233 (hw : OwnW a0 Z) : Cond.before (.methodLink "java/lang/String" (1059 : Nat) ⟨"jdk/internal/util/Preconditions", "checkIndex", "(IILjava/util/function/BiFunction;)I"⟩) a0 Z = true := wA hw 233 rfl
theorem pd_24 : parseMethodDescriptor "(IILjava/util/function/BiFunction;)I" = some ⟨[.int, .int, (.object "java/util/function/BiFunction")], some .int⟩ := by decide +kernel
theorem w_234 (hw : OwnW a0 Z) : Cond.before (.static ⟨"jdk/internal/util/Preconditions", "checkIndex", "(IILjava/util/function/BiFunction;)I"⟩) a0 Z = true := wA hw 234 rfl
theorem b_13 (hw : OwnW a0 Z) : CallS "java/lang/String" 1059 (⟨"jdk/internal/util/Preconditions", "checkIndex", "(IILjava/util/function/BiFunction;)I"⟩ : MethodName) jdk_41_method_11_code (3 : Nat) (Option.some Jvm.ClassFile.FieldType.int) a0 Z := ⟨(w_233 hw), (w_234 hw), (w_232 hw), (w_235 hw)⟩
theorem d43_8 : decode jdk_42_method_155_code 8 = .ok (.pop, 1) := by decide +kernel
theorem d43_9 : decode jdk_42_method_155_code 9 = .ok (.return_, 1) := by decide +kernel
abbrev y43 : MethodName := (⟨"java/lang/String", "checkIndex", "(II)V"⟩ : MethodName)
theorem rm43_s {i1 bn1 : Int32} {wf1 : Value} (hw : OwnW a0 Z) (Z0 : n0 ≤ h0.size) (F0 : OSf Z h0 wf1) (hwf : wf1.isRef = true) (hb1 : ¬ i1 < (0 : Int32)) (hb2 : i1 < bn1) : OwnMF l Z y43 jdk_42_method_155_code 2 none ws ⟨1, 0, 0, 14⟩ #[(.int i1), (.int bn1)] h0 (OwnQ none h0 n0) := by
  refine bo (plainFor_of_name pn_1) ?_
  intro p e s m below meth c T0 G C hnm hnamed X0 e0 K
  have N0 := Fr.nil n0
  refine Goes.to (congrArg T0.setTop (ef_43ii m i1 bn1)) ?_
  rcases ref_cases hwf with rfl | ⟨sa1, rfl⟩
  · refine g_iloadN C X0 d43_0 1 rfl ?_
    refine g_iloadN C X0 d43_1 2 rfl ?_
    refine g_getS C X0 (w_231 hw) Via.refl e0 F0 d43_2 5 (fun T2 X2 e2 => ?_)
    refine g_callS0 C X2 (b_13 hw) d43_5 [(.int i1), (.int bn1), .null] [] 0 (rm44_sn hw Z0 hb1 hb2) N0 pd_24 e2 8 (fun T3 _ X3 N3 e3 => ?_)
    refine g_pop C X3 d43_8 9 rfl ?_
    exact g_retV C X3 K d43_9 (by decide) (by decide) e3 ⟨rfl, N3, rfl⟩
  · refine g_iloadN C X0 d43_0 1 rfl ?_
    refine g_iloadN C X0 d43_1 2 rfl ?_
    refine g_getS C X0 (w_231 hw) Via.refl e0 F0 d43_2 5 (fun T4 X4 e4 => ?_)
    refine g_callS0 C X4 (b_13 hw) d43_5 [(.int i1), (.int bn1), (.ref sa1)] [] 0 (rm44_sr hw Z0 hb1 hb2) N0 pd_24 e4 8 (fun T5 _ X5 N5 e5 => ?_)
    refine g_pop C X5 d43_8 9 rfl ?_
    exact g_retV C X5 K d43_9 (by decide) (by decide) e5 ⟨rfl, N5, rfl⟩
theorem ef_41r (m : MethodId) (a1 : Addr) : entryFrame m #[(.ref a1)] 1 = mkF m 0 #[rv a1] [] := by first | (simp [entryFrame, mkF, argsToLocals, Value.category, iv, rv, jv, nv, uu, sd]; done) | rfl
theorem d41_0 : decode jdk_42_method_154_code 0 = .ok (.getstatic 38, 3) := by decide +kernel
theorem d41_3 : decode jdk_42_method_154_code 3 = .ok (.ifCond .eq 14, 3) := by decide +kernel
theorem d41_6 : decode jdk_42_method_154_code 6 = .ok (.aload_n 0, 1) := by decide +kernel
theorem d41_7 : decode jdk_42_method_154_code 7 = .ok (.getfield 15, 3) := by decide +kernel
theorem d41_10 : decode jdk_42_method_154_code 10 = .ok (.ifCond .ne 7, 3) := by decide +kernel
theorem d41_13 : decode jdk_42_method_154_code 13 = .ok (.iconst 1, 1) := by decide +kernel
theorem d41_14 : decode jdk_42_method_154_code 14 = .ok (.goto 4, 3) := by decide +kernel
theorem d41_18 : decode jdk_42_method_154_code 18 = .ok (.ireturn, 1) := by decide +kernel
abbrev y41 : MethodName := (⟨"java/lang/String", "isLatin1", "()Z"⟩ : MethodName)
theorem rm41 {o1 : Addr} {cs1 : Int32} (hw : OwnW a0 Z) (Z0 : n0 ≤ h0.size) (F0 : OFc Z h0 o1) (F1 : OSc Z h0 cs1) (hcs : ¬ cs1 = (0 : Int32)) : OwnMF l Z y41 jdk_42_method_154_code 1 (some .boolean) ws ⟨0, 0, 0, 0⟩ #[(.ref o1)] h0 (OwnQ (some (.int 1)) h0 n0) := by
  refine bo (plainFor_of_name pn_1) ?_
  intro p e s m below meth c T0 G C hnm hnamed X0 e0 K
  have N0 := Fr.nil n0
  refine Goes.to (congrArg T0.setTop (ef_41r m o1)) ?_
  refine g_getS C X0 (w_4 hw) Via.refl e0 F1 d41_0 3 (fun T1 X1 e1 => ?_)
  refine g_if_eq C X1 d41_3 17 6 (fun hc3 => absurd hc3 hcs) (fun hc3 => ?_)
  refine g_aloadN C X1 d41_6 7 rfl rfl ?_
  refine g_getF C X1 (w_24 hw) Via.refl e1 F0 d41_7 10 (fun T2 X2 e2 => ?_)
  refine g_if_ne C X2 d41_10 17 13 (fun hc10 => absurd hc10 (by decide)) (fun hc10 => ?_)
  refine g_iconst C X2 d41_13 14 (v := 1) rfl ?_
  refine g_goto C X2 d41_14 18 ?_
  exact g_retN C X2 K (by simp) d41_18 (by decide) (by decide) e2 ⟨rfl, N0, rfl⟩
theorem ef_42ri (m : MethodId) (a1 : Addr) (a2 : Int32) : entryFrame m #[(.ref a1), (.int a2)] 2 = mkF m 0 #[rv a1, iv a2] [] := by first | (simp [entryFrame, mkF, argsToLocals, Value.category, iv, rv, jv, nv, uu, sd]; done) | rfl
theorem d42_0 : decode jdk_43_method_2_code 0 = .ok (.iload_n 1, 1) := by decide +kernel
theorem d42_1 : decode jdk_43_method_2_code 1 = .ok (.aload_n 0, 1) := by decide +kernel
theorem d42_2 : decode jdk_43_method_2_code 2 = .ok (.arraylength, 1) := by decide +kernel
theorem d42_3 : decode jdk_43_method_2_code 3 = .ok (.invokestatic 9, 3) := by decide +kernel
theorem w_230 (hw : OwnW a0 Z) : Cond.before (.code ⟨"java/lang/String", "checkIndex", "(II)V"⟩ jdk_42_method_155_code (2 : Nat) (Option.none : Option Jvm.ClassFile.FieldType)) a0 Z = true := wA hw 230 rfl
theorem w_228 (hw : OwnW a0 Z) : Cond.before (.methodLink "java/lang/StringLatin1" (9 : Nat) ⟨"java/lang/String", "checkIndex", "(II)V"⟩) a0 Z = true := wA hw 228 rfl
theorem w_229 (hw : OwnW a0 Z) : Cond.before (.static ⟨"java/lang/String", "checkIndex", "(II)V"⟩) a0 Z = true := wA hw 229 rfl
theorem b_14 (hw : OwnW a0 Z) : CallS "java/lang/StringLatin1" 9 (⟨"java/lang/String", "checkIndex", "(II)V"⟩ : MethodName) jdk_42_method_155_code (2 : Nat) (Option.none : Option Jvm.ClassFile.FieldType) a0 Z := ⟨(w_228 hw), (w_229 hw), (w_2 hw), (w_230 hw)⟩
theorem d42_6 : decode jdk_43_method_2_code 6 = .ok (.aload_n 0, 1) := by decide +kernel
theorem d42_7 : decode jdk_43_method_2_code 7 = .ok (.iload_n 1, 1) := by decide +kernel
theorem d42_8 : decode jdk_43_method_2_code 8 = .ok (.baload, 1) := by decide +kernel
theorem d42_9 : decode jdk_43_method_2_code 9 = .ok (.sipush 255, 3) := by decide +kernel
theorem d42_12 : decode jdk_43_method_2_code 12 = .ok (.iand, 1) := by decide +kernel
theorem d42_13 : decode jdk_43_method_2_code 13 = .ok (.i2c, 1) := by decide +kernel
theorem d42_14 : decode jdk_43_method_2_code 14 = .ok (.ireturn, 1) := by decide +kernel
abbrev y42 : MethodName := (⟨"java/lang/StringLatin1", "charAt", "([BI)C"⟩ : MethodName)
theorem pn_2 : plainName "java/lang/StringLatin1" = true := by first | (simp [plainName, overriddenIn]; done) | decide +kernel
theorem rm42_s {o2 : Addr} {i1 : Int32} {kd1 : ClassId} {l1 : List Int32} {j1 : Nat} {wf1 : Value} (hw : OwnW a0 Z) (Z0 : n0 ≤ h0.size) (F0 : Arv Z h0 o2 kd1 .byte (Int32.ofNat l1.length) (l1.map Value.int) (.int 0)) (F1 : OSf Z h0 wf1) (hwf : wf1.isRef = true) (hj : Int32.ofNat j1 = i1) (hl : j1 < l1.length) (hb : l1.length ≤ 1000) : OwnMF l Z y42 jdk_43_method_2_code 2 (some .char) ws ⟨2, 0, 0, 27⟩ #[(.ref o2), (.int i1)] h0 (OwnQ (some (.int (own_ch (l1.getD j1 0)))) h0 n0) := by
  refine bo (plainFor_of_name pn_2) ?_
  intro p e s m below meth c T0 G C hnm hnamed X0 e0 K
  have N0 := Fr.nil n0
  refine Goes.to (congrArg T0.setTop (ef_42ri m o2 i1)) ?_
  refine g_iloadN C X0 d42_0 1 rfl ?_
  refine g_aloadN C X0 d42_1 2 rfl rfl ?_
  refine g_arraylength C X0 e0 F0 d42_2 3 ?_
  refine g_callSn C X0 (b_14 hw) d42_3 [(.int i1), (.int (Int32.ofNat l1.length))] [] 0 (rm43_s hw Z0 F1 hwf (own_in hj hl hb).1 (own_in hj hl hb).2) N0 pd_15 e0 6 (fun T1 _ X1 N1 e1 => ?_)
  refine g_aloadN C X1 d42_6 7 rfl rfl ?_
  refine g_iloadN C X1 d42_7 8 rfl ?_
  refine g_baload C X1 e1 F0 (own_in hj hl hb) (v := (.int (l1.getD j1 0))) (own_get hj (Nat.lt_of_lt_of_le hl (Nat.le_trans hb (by decide)))) d42_8 9 ?_
  refine g_sipush C X1 d42_9 12 (v := 255) rfl ?_
  refine g_iand C X1 d42_12 13 ?_
  refine g_i2c C X1 d42_13 14 ?_
  exact g_retN C X1 K (by simp) d42_14 (by decide) (by decide) e1 ⟨rfl, N1, rfl⟩
theorem ef_40ri (m : MethodId) (a1 : Addr) (a2 : Int32) : entryFrame m #[(.ref a1), (.int a2)] 2 = mkF m 0 #[rv a1, iv a2] [] := by first | (simp [entryFrame, mkF, argsToLocals, Value.category, iv, rv, jv, nv, uu, sd]; done) | rfl
theorem d40_0 : decode jdk_42_method_56_code 0 = .ok (.aload_n 0, 1) := by decide +kernel
theorem d40_1 : decode jdk_42_method_56_code 1 = .ok (.invokevirtual 492, 3) := by decide +kernel
theorem w_224 (hw : OwnW a0 Z) : Cond.before (.code ⟨"java/lang/String", "isLatin1", "()Z"⟩ jdk_42_method_154_code (1 : Nat) (Option.some Jvm.ClassFile.FieldType.boolean)) a0 Z = true := wA hw 224 rfl
theorem w_220 (hw : OwnW a0 Z) : Cond.before (.methodLink "java/lang/String" (492 : Nat) ⟨"java/lang/String", "isLatin1", "()Z"⟩) a0 Z = true := wA hw 220 rfl
theorem w_221 (hw : OwnW a0 Z) : Cond.before (.declares ⟨"java/lang/String", "isLatin1", "()Z"⟩) a0 Z = true := wA hw 221 rfl
theorem w_223 (hw : OwnW a0 Z) : Cond.before (.selects "java/lang/String" ⟨"java/lang/String", "isLatin1", "()Z"⟩ ⟨"java/lang/String", "isLatin1", "()Z"⟩) a0 Z = true := wA hw 223 rfl
theorem w_222 (hw : OwnW a0 Z) : Cond.before (.instanceMethod ⟨"java/lang/String", "isLatin1", "()Z"⟩) a0 Z = true := wA hw 222 rfl
theorem b_15 (hw : OwnW a0 Z) : CallV "java/lang/String" 492 (⟨"java/lang/String", "isLatin1", "()Z"⟩ : MethodName) "java/lang/String" jdk_42_method_154_code (1 : Nat) (Option.some Jvm.ClassFile.FieldType.boolean) a0 Z := ⟨(w_220 hw), (w_221 hw), (w_223 hw), (w_222 hw), (w_224 hw), (w_2 hw)⟩
theorem d40_4 : decode jdk_42_method_56_code 4 = .ok (.ifCond .eq 12, 3) := by decide +kernel
theorem d40_7 : decode jdk_42_method_56_code 7 = .ok (.aload_n 0, 1) := by decide +kernel
theorem d40_8 : decode jdk_42_method_56_code 8 = .ok (.getfield 9, 3) := by decide +kernel
theorem d40_11 : decode jdk_42_method_56_code 11 = .ok (.iload_n 1, 1) := by decide +kernel
theorem d40_12 : decode jdk_42_method_56_code 12 = .ok (.invokestatic 495, 3) := by decide +kernel
theorem w_227 (hw : OwnW a0 Z) : Cond.before (.code ⟨"java/lang/StringLatin1", "charAt", "([BI)C"⟩ jdk_43_method_2_code (2 : Nat) (Option.some Jvm.ClassFile.FieldType.char)) a0 Z = true := wA hw 227 rfl
theorem w_7 (hw : OwnW a0 Z) : Cond.before (.initialized "java/lang/StringLatin1") a0 Z = true := wA hw 7 rfl
theorem w_225 (hw : OwnW a0 Z) : Cond.before (.methodLink "java/lang/String" (495 : Nat) ⟨"java/lang/StringLatin1", "charAt", "([BI)C"⟩) a0 Z = true := wA hw 225 rfl
theorem pd_25 : parseMethodDescriptor "([BI)C" = some ⟨[(.array .byte), .int], some .char⟩ := by decide +kernel
theorem w_226 (hw : OwnW a0 Z) : Cond.before (.static ⟨"java/lang/StringLatin1", "charAt", "([BI)C"⟩) a0 Z = true := wA hw 226 rfl
theorem b_16 (hw : OwnW a0 Z) : CallS "java/lang/String" 495 (⟨"java/lang/StringLatin1", "charAt", "([BI)C"⟩ : MethodName) jdk_43_method_2_code (2 : Nat) (Option.some Jvm.ClassFile.FieldType.char) a0 Z := ⟨(w_225 hw), (w_226 hw), (w_7 hw), (w_227 hw)⟩
theorem d40_15 : decode jdk_42_method_56_code 15 = .ok (.ireturn, 1) := by decide +kernel
abbrev y40 : MethodName := (⟨"java/lang/String", "charAt", "(I)C"⟩ : MethodName)
theorem rm40_s {o1 o2 : Addr} {i1 cs1 : Int32} {kd1 : ClassId} {l1 : List Int32} {j1 : Nat} {wf1 : Value} (hw : OwnW a0 Z) (Z0 : n0 ≤ h0.size) (F0 : OEs Z h0 o1) (F1 : OFv Z h0 o1 (.ref o2)) (F2 : OFc Z h0 o1) (F3 : Arv Z h0 o2 kd1 .byte (Int32.ofNat l1.length) (l1.map Value.int) (.int 0)) (F4 : OSc Z h0 cs1) (F5 : OSf Z h0 wf1) (hcs : ¬ cs1 = (0 : Int32)) (hwf : wf1.isRef = true) (hj : Int32.ofNat j1 = i1) (hl : j1 < l1.length) (hb : l1.length ≤ 1000) : OwnMF l Z y40 jdk_42_method_56_code 2 (some .char) ws ⟨3, 0, 0, 40⟩ #[(.ref o1), (.int i1)] h0 (OwnQ (some (.int (own_ch (l1.getD j1 0)))) h0 n0) := by
  refine bo (plainFor_of_name pn_1) ?_
  intro p e s m below meth c T0 G C hnm hnamed X0 e0 K
  have N0 := Fr.nil n0
  refine Goes.to (congrArg T0.setTop (ef_40ri m o1 i1)) ?_
  refine g_aloadN C X0 d40_0 1 rfl rfl ?_
  refine g_callV0 C X0 (b_15 hw) F0 d40_1 [] [] 0 (rm41 hw Z0 F2 F4 hcs) N0 pd_12 e0 4 (fun T1 _ X1 N1 e1 => ?_)
  refine g_if_eq C X1 d40_4 16 7 (fun hc4 => absurd hc4 (by decide)) (fun hc4 => ?_)
  refine g_aloadN C X1 d40_7 8 rfl rfl ?_
  refine g_getF C X1 (w_22 hw) Via.refl e1 F1 d40_8 11 (fun T2 X2 e2 => ?_)
  refine g_iloadN C X2 d40_11 12 rfl ?_
  refine g_callS0 C X2 (b_16 hw) d40_12 [(.ref o2), (.int i1)] [] 0 (rm42_s hw Z0 F3 F5 hwf hj hl hb) N1 pd_25 e2 15 (fun T3 _ X3 N3 e3 => ?_)
  exact g_retN C X3 K (by simp) d40_15 (by decide) (by decide) e3 ⟨(by rw [own_narr]), N3, rfl⟩
theorem ef_38rijii (m : MethodId) (a1 : Addr) (a2 : Int32) (a3 : Int64) (a4 : Int32) (a5 : Int32) : entryFrame m #[(.ref a1), (.int a2), (.long a3), (.int a4), (.int a5)] 7 = mkF m 0 #[rv a1, iv a2, jv a3, sd, iv a4, iv a5, uu] [] := by first | (simp [entryFrame, mkF, argsToLocals, Value.category, iv, rv, jv, nv, uu, sd]; done) | rfl
theorem d38_0 : decode method_5_code 0 = .ok (.iload 5, 2) := by decide +kernel
theorem d38_2 : decode method_5_code 2 = .ok (.iload 4, 2) := by decide +kernel
theorem d38_4 : decode method_5_code 4 = .ok (.if_icmp .ge 98, 3) := by decide +kernel
theorem d38_102 : decode method_5_code 102 = .ok (.return_, 1) := by decide +kernel
theorem d38_7 : decode method_5_code 7 = .ok (.bipush 10, 2) := by decide +kernel
theorem d38_9 : decode method_5_code 9 = .ok (.newarray .long, 2) := by decide +kernel
theorem w_210 (hw : OwnW a0 Z) : Cond.before (.arrayClass Jvm.ClassFile.FieldType.long) a0 Z = true := wA hw 210 rfl
theorem d38_11 : decode method_5_code 11 = .ok (.dup, 1) := by decide +kernel
theorem d38_12 : decode method_5_code 12 = .ok (.iconst 0, 1) := by decide +kernel
theorem d38_13 : decode method_5_code 13 = .ok (.lconst 1, 1) := by decide +kernel
theorem d38_14 : decode method_5_code 14 = .ok (.lastore, 1) := by decide +kernel
theorem d38_15 : decode method_5_code 15 = .ok (.dup, 1) := by decide +kernel
theorem d38_16 : decode method_5_code 16 = .ok (.iconst 1, 1) := by decide +kernel
theorem d38_17 : decode method_5_code 17 = .ok (.ldc2_w 47, 3) := by decide +kernel
theorem d38_20 : decode method_5_code 20 = .ok (.lastore, 1) := by decide +kernel
theorem d38_21 : decode method_5_code 21 = .ok (.dup, 1) := by decide +kernel
theorem d38_22 : decode method_5_code 22 = .ok (.iconst 2, 1) := by decide +kernel
theorem d38_23 : decode method_5_code 23 = .ok (.ldc2_w 49, 3) := by decide +kernel
theorem d38_26 : decode method_5_code 26 = .ok (.lastore, 1) := by decide +kernel
theorem d38_27 : decode method_5_code 27 = .ok (.dup, 1) := by decide +kernel
theorem d38_28 : decode method_5_code 28 = .ok (.iconst 3, 1) := by decide +kernel
theorem d38_29 : decode method_5_code 29 = .ok (.ldc2_w 51, 3) := by decide +kernel
theorem d38_32 : decode method_5_code 32 = .ok (.lastore, 1) := by decide +kernel
theorem d38_33 : decode method_5_code 33 = .ok (.dup, 1) := by decide +kernel
theorem d38_34 : decode method_5_code 34 = .ok (.iconst 4, 1) := by decide +kernel
theorem d38_35 : decode method_5_code 35 = .ok (.ldc2_w 53, 3) := by decide +kernel
theorem d38_38 : decode method_5_code 38 = .ok (.lastore, 1) := by decide +kernel
theorem d38_39 : decode method_5_code 39 = .ok (.dup, 1) := by decide +kernel
theorem d38_40 : decode method_5_code 40 = .ok (.iconst 5, 1) := by decide +kernel
theorem d38_41 : decode method_5_code 41 = .ok (.ldc2_w 55, 3) := by decide +kernel
theorem d38_44 : decode method_5_code 44 = .ok (.lastore, 1) := by decide +kernel
theorem d38_45 : decode method_5_code 45 = .ok (.dup, 1) := by decide +kernel
theorem d38_46 : decode method_5_code 46 = .ok (.bipush 6, 2) := by decide +kernel
theorem d38_48 : decode method_5_code 48 = .ok (.ldc2_w 57, 3) := by decide +kernel
theorem d38_51 : decode method_5_code 51 = .ok (.lastore, 1) := by decide +kernel
theorem d38_52 : decode method_5_code 52 = .ok (.dup, 1) := by decide +kernel
theorem d38_53 : decode method_5_code 53 = .ok (.bipush 7, 2) := by decide +kernel
theorem d38_55 : decode method_5_code 55 = .ok (.ldc2_w 59, 3) := by decide +kernel
theorem d38_58 : decode method_5_code 58 = .ok (.lastore, 1) := by decide +kernel
theorem d38_59 : decode method_5_code 59 = .ok (.dup, 1) := by decide +kernel
theorem d38_60 : decode method_5_code 60 = .ok (.bipush 8, 2) := by decide +kernel
theorem d38_62 : decode method_5_code 62 = .ok (.ldc2_w 61, 3) := by decide +kernel
theorem d38_65 : decode method_5_code 65 = .ok (.lastore, 1) := by decide +kernel
theorem d38_66 : decode method_5_code 66 = .ok (.dup, 1) := by decide +kernel
theorem d38_67 : decode method_5_code 67 = .ok (.bipush 9, 2) := by decide +kernel
theorem d38_69 : decode method_5_code 69 = .ok (.ldc2_w 63, 3) := by decide +kernel
theorem d38_72 : decode method_5_code 72 = .ok (.lastore, 1) := by decide +kernel
theorem d38_73 : decode method_5_code 73 = .ok (.astore 6, 2) := by decide +kernel
theorem d38_75 : decode method_5_code 75 = .ok (.aload_n 0, 1) := by decide +kernel
theorem d38_76 : decode method_5_code 76 = .ok (.iload_n 1, 1) := by decide +kernel
theorem d38_77 : decode method_5_code 77 = .ok (.iload 5, 2) := by decide +kernel
theorem d38_79 : decode method_5_code 79 = .ok (.iadd, 1) := by decide +kernel
theorem d38_80 : decode method_5_code 80 = .ok (.bipush 48, 2) := by decide +kernel
theorem d38_82 : decode method_5_code 82 = .ok (.lload_n 2, 1) := by decide +kernel
theorem d38_83 : decode method_5_code 83 = .ok (.aload 6, 2) := by decide +kernel
theorem d38_85 : decode method_5_code 85 = .ok (.iload 4, 2) := by decide +kernel
theorem d38_87 : decode method_5_code 87 = .ok (.iconst 1, 1) := by decide +kernel
theorem d38_88 : decode method_5_code 88 = .ok (.isub, 1) := by decide +kernel
theorem d38_89 : decode method_5_code 89 = .ok (.iload 5, 2) := by decide +kernel
theorem d38_91 : decode method_5_code 91 = .ok (.isub, 1) := by decide +kernel
theorem d38_92 : decode method_5_code 92 = .ok (.laload, 1) := by decide +kernel
theorem d38_93 : decode method_5_code 93 = .ok (.ldiv, 1) := by decide +kernel
theorem d38_94 : decode method_5_code 94 = .ok (.ldc2_w 47, 3) := by decide +kernel
theorem d38_97 : decode method_5_code 97 = .ok (.lrem, 1) := by decide +kernel
theorem d38_98 : decode method_5_code 98 = .ok (.l2i, 1) := by decide +kernel
theorem d38_99 : decode method_5_code 99 = .ok (.iadd, 1) := by decide +kernel
theorem d38_100 : decode method_5_code 100 = .ok (.i2c, 1) := by decide +kernel
theorem d38_101 : decode method_5_code 101 = .ok (.castore, 1) := by decide +kernel
def Q38 (Z : State) (o2 : Addr) (i1 : Int32) (x1 : Int64) (i2 : Int32) (i3 : Int32) (kd1 : ClassId) (l1 : List Int32) (l2 : List Int32) (nn1 : Nat) (j1 : Nat) (h0 : Heap) (n0 : Nat) (v : Option Value) (h : Heap) (L : List Loc) : Prop := v = none ∧ Fr n0 L ∧ Keep h0 h [o2] ∧ Arv Z h o2 kd1 .char 28 ((l1 ++ (low nn1 (dg nn1)).take (j1 + 1)).map Value.int) (.int 0)
abbrev y38 : MethodName := (⟨"com/example/mortise/mortise/core/ProblemLocationPinLaw", "one", "([CIJII)V"⟩ : MethodName)
theorem rm38 {o2 : Addr} {i1 i2 i3 : Int32} {x1 : Int64} {kd1 : ClassId} {l1 l2 : List Int32} {nn1 j1 : Nat} (hw : OwnW a0 Z) (Z0 : n0 ≤ h0.size) (F0 : Arv Z h0 o2 kd1 .char 28 (l2.map Value.int) (.int 0)) (gn_o2 : n0 ≤ o2) (hp : Int32.ofNat l1.length = i1) (hv : x1.toInt = (nn1 : Int)) (hd : Int32.ofNat (dg nn1) = i2) (hn : nn1 ≤ 2 ^ 31) (hj : Int32.ofNat j1 = i3) (h10 : j1 < 10) (hl2 : l2 = l1 ++ (low nn1 (dg nn1)).take j1) (hf : l1.length + dg nn1 ≤ 28) : OwnMF l Z y38 method_5_code 7 none ws ⟨0, 1, 10, 0⟩ #[(.ref o2), (.int i1), (.long x1), (.int i2), (.int i3)] h0 (Q38 Z o2 i1 x1 i2 i3 kd1 l1 l2 nn1 j1 h0 n0) := by
  refine bo (plainFor_of_name pn_0) ?_
  intro p e s m below meth c T0 G C hnm hnamed X0 e0 K
  have N0 := Fr.nil n0
  refine Goes.to (congrArg T0.setTop (ef_38rijii m o2 i1 x1 i2 i3)) ?_
  have K00 := Keep.refl h0 [o2]
  refine g_iload C X0 d38_0 2 rfl ?_
  refine g_iload C X0 d38_2 4 rfl ?_
  refine g_icmp_ge C X0 d38_4 102 7 (fun hc4 => ?_) (fun hc4 => ?_)
  · have f1 : Arv Z h0 o2 kd1 .char 28 ((l1 ++ (low nn1 (dg nn1)).take (j1 + 1)).map Value.int) (.int 0) := by rw [one_ge hl2 (ix_ge hj hd (Nat.lt_trans h10 (by decide)) (Nat.lt_of_le_of_lt (dg_pos nn1).2 (by decide)) hc4)]; exact F0
    exact g_retV C X0 K d38_102 (by decide) (by decide) e0 ⟨rfl, N0, K00, f1⟩
  · refine g_bipush C X0 d38_7 9 (v := 10) rfl ?_
    refine g_newA (aty := .long) (n := (10 : Int32)) C X0 (cap := 10) (w_210 hw) e0 d38_9 11 (by decide) (by decide) (by decide) (by decide) (by decide) (fun T2 h2 b2 ki2 X2 e2 g2 E2 A2 => ?_)
    have n3 : o2 ≠ b2 := Nat.ne_of_lt (Nat.lt_of_lt_of_eq F0.lt g2.symm)
    have f4 := F0.ext E2
    have gn_b2 : n0 ≤ b2 := Nat.le_trans Z0 (Nat.le_of_eq g2.symm)
    have sz_b2 : h0.size ≤ b2 := Nat.le_trans K00.1 (Nat.le_of_eq g2.symm)
    have K2 := K00.ext E2
    have f5 : Arv Z h2 b2 ki2 .long 10 [(.long (0 : Int64)), (.long (0 : Int64)), (.long (0 : Int64)), (.long (0 : Int64)), (.long (0 : Int64)), (.long (0 : Int64)), (.long (0 : Int64)), (.long (0 : Int64)), (.long (0 : Int64)), (.long (0 : Int64))] (.long (0 : Int64)) := A2.pad (pad_rep [] (.long (0 : Int64)) 10)
    refine g_dup C X2 d38_11 12 rfl ?_
    refine g_iconst C X2 d38_12 13 (v := 0) rfl ?_
    refine g_lconst C X2 d38_13 14 (v := 1) rfl ?_
    refine g_lastore C X2 (i := 0) e2 f5 (by decide) rfl (Nat.le_of_ble_eq_true rfl) d38_14 15 (fun T6 h6 X6 e6 W6 A6 => ?_)
    have f7 := f4.other W6 n3
    have f8 : Arv Z h6 b2 ki2 .long 10 [(.long (1 : Int64)), (.long (0 : Int64)), (.long (0 : Int64)), (.long (0 : Int64)), (.long (0 : Int64)), (.long (0 : Int64)), (.long (0 : Int64)), (.long (0 : Int64)), (.long (0 : Int64)), (.long (0 : Int64))] (.long (0 : Int64)) := A6
    have N6 := Fr.snoc X6 N0 gn_b2
    have K6 := K2.wr W6 (Or.inr sz_b2)
    refine g_dup C X6 d38_15 16 rfl ?_
    refine g_iconst C X6 d38_16 17 (v := 1) rfl ?_
    refine g_ldc2 C X6 (w_198 hw) d38_17 20 ?_
    refine g_lastore C X6 (i := 1) e6 f8 (by decide) rfl (Nat.le_of_ble_eq_true rfl) d38_20 21 (fun T9 h9 X9 e9 W9 A9 => ?_)
    have f10 := f7.other W9 n3
    have f11 : Arv Z h9 b2 ki2 .long 10 [(.long (1 : Int64)), (.long (10 : Int64)), (.long (0 : Int64)), (.long (0 : Int64)), (.long (0 : Int64)), (.long (0 : Int64)), (.long (0 : Int64)), (.long (0 : Int64)), (.long (0 : Int64)), (.long (0 : Int64))] (.long (0 : Int64)) := A9
    have N9 := Fr.snoc X9 N6 gn_b2
    have K9 := K6.wr W9 (Or.inr sz_b2)
    refine g_dup C X9 d38_21 22 rfl ?_
    refine g_iconst C X9 d38_22 23 (v := 2) rfl ?_
    refine g_ldc2 C X9 (w_199 hw) d38_23 26 ?_
    refine g_lastore C X9 (i := 2) e9 f11 (by decide) rfl (Nat.le_of_ble_eq_true rfl) d38_26 27 (fun T12 h12 X12 e12 W12 A12 => ?_)
    have f13 := f10.other W12 n3
    have f14 : Arv Z h12 b2 ki2 .long 10 [(.long (1 : Int64)), (.long (10 : Int64)), (.long (100 : Int64)), (.long (0 : Int64)), (.long (0 : Int64)), (.long (0 : Int64)), (.long (0 : Int64)), (.long (0 : Int64)), (.long (0 : Int64)), (.long (0 : Int64))] (.long (0 : Int64)) := A12
    have N12 := Fr.snoc X12 N9 gn_b2
    have K12 := K9.wr W12 (Or.inr sz_b2)
    refine g_dup C X12 d38_27 28 rfl ?_
    refine g_iconst C X12 d38_28 29 (v := 3) rfl ?_
    refine g_ldc2 C X12 (w_200 hw) d38_29 32 ?_
    refine g_lastore C X12 (i := 3) e12 f14 (by decide) rfl (Nat.le_of_ble_eq_true rfl) d38_32 33 (fun T15 h15 X15 e15 W15 A15 => ?_)
    have f16 := f13.other W15 n3
    have f17 : Arv Z h15 b2 ki2 .long 10 [(.long (1 : Int64)), (.long (10 : Int64)), (.long (100 : Int64)), (.long (1000 : Int64)), (.long (0 : Int64)), (.long (0 : Int64)), (.long (0 : Int64)), (.long (0 : Int64)), (.long (0 : Int64)), (.long (0 : Int64))] (.long (0 : Int64)) := A15
    have N15 := Fr.snoc X15 N12 gn_b2
    have K15 := K12.wr W15 (Or.inr sz_b2)
    refine g_dup C X15 d38_33 34 rfl ?_
    refine g_iconst C X15 d38_34 35 (v := 4) rfl ?_
    refine g_ldc2 C X15 (w_201 hw) d38_35 38 ?_
    refine g_lastore C X15 (i := 4) e15 f17 (by decide) rfl (Nat.le_of_ble_eq_true rfl) d38_38 39 (fun T18 h18 X18 e18 W18 A18 => ?_)
    have f19 := f16.other W18 n3
    have f20 : Arv Z h18 b2 ki2 .long 10 [(.long (1 : Int64)), (.long (10 : Int64)), (.long (100 : Int64)), (.long (1000 : Int64)), (.long (10000 : Int64)), (.long (0 : Int64)), (.long (0 : Int64)), (.long (0 : Int64)), (.long (0 : Int64)), (.long (0 : Int64))] (.long (0 : Int64)) := A18
    have N18 := Fr.snoc X18 N15 gn_b2
    have K18 := K15.wr W18 (Or.inr sz_b2)
    refine g_dup C X18 d38_39 40 rfl ?_
    refine g_iconst C X18 d38_40 41 (v := 5) rfl ?_
    refine g_ldc2 C X18 (w_202 hw) d38_41 44 ?_
    refine g_lastore C X18 (i := 5) e18 f20 (by decide) rfl (Nat.le_of_ble_eq_true rfl) d38_44 45 (fun T21 h21 X21 e21 W21 A21 => ?_)
    have f22 := f19.other W21 n3
    have f23 : Arv Z h21 b2 ki2 .long 10 [(.long (1 : Int64)), (.long (10 : Int64)), (.long (100 : Int64)), (.long (1000 : Int64)), (.long (10000 : Int64)), (.long (100000 : Int64)), (.long (0 : Int64)), (.long (0 : Int64)), (.long (0 : Int64)), (.long (0 : Int64))] (.long (0 : Int64)) := A21
    have N21 := Fr.snoc X21 N18 gn_b2
    have K21 := K18.wr W21 (Or.inr sz_b2)
    refine g_dup C X21 d38_45 46 rfl ?_
    refine g_bipush C X21 d38_46 48 (v := 6) rfl ?_
    refine g_ldc2 C X21 (w_203 hw) d38_48 51 ?_
    refine g_lastore C X21 (i := 6) e21 f23 (by decide) rfl (Nat.le_of_ble_eq_true rfl) d38_51 52 (fun T24 h24 X24 e24 W24 A24 => ?_)
    have f25 := f22.other W24 n3
    have f26 : Arv Z h24 b2 ki2 .long 10 [(.long (1 : Int64)), (.long (10 : Int64)), (.long (100 : Int64)), (.long (1000 : Int64)), (.long (10000 : Int64)), (.long (100000 : Int64)), (.long (1000000 : Int64)), (.long (0 : Int64)), (.long (0 : Int64)), (.long (0 : Int64))] (.long (0 : Int64)) := A24
    have N24 := Fr.snoc X24 N21 gn_b2
    have K24 := K21.wr W24 (Or.inr sz_b2)
    refine g_dup C X24 d38_52 53 rfl ?_
    refine g_bipush C X24 d38_53 55 (v := 7) rfl ?_
    refine g_ldc2 C X24 (w_204 hw) d38_55 58 ?_
    refine g_lastore C X24 (i := 7) e24 f26 (by decide) rfl (Nat.le_of_ble_eq_true rfl) d38_58 59 (fun T27 h27 X27 e27 W27 A27 => ?_)
    have f28 := f25.other W27 n3
    have f29 : Arv Z h27 b2 ki2 .long 10 [(.long (1 : Int64)), (.long (10 : Int64)), (.long (100 : Int64)), (.long (1000 : Int64)), (.long (10000 : Int64)), (.long (100000 : Int64)), (.long (1000000 : Int64)), (.long (10000000 : Int64)), (.long (0 : Int64)), (.long (0 : Int64))] (.long (0 : Int64)) := A27
    have N27 := Fr.snoc X27 N24 gn_b2
    have K27 := K24.wr W27 (Or.inr sz_b2)
    refine g_dup C X27 d38_59 60 rfl ?_
    refine g_bipush C X27 d38_60 62 (v := 8) rfl ?_
    refine g_ldc2 C X27 (w_205 hw) d38_62 65 ?_
    refine g_lastore C X27 (i := 8) e27 f29 (by decide) rfl (Nat.le_of_ble_eq_true rfl) d38_65 66 (fun T30 h30 X30 e30 W30 A30 => ?_)
    have f31 := f28.other W30 n3
    have f32 : Arv Z h30 b2 ki2 .long 10 [(.long (1 : Int64)), (.long (10 : Int64)), (.long (100 : Int64)), (.long (1000 : Int64)), (.long (10000 : Int64)), (.long (100000 : Int64)), (.long (1000000 : Int64)), (.long (10000000 : Int64)), (.long (100000000 : Int64)), (.long (0 : Int64))] (.long (0 : Int64)) := A30
    have N30 := Fr.snoc X30 N27 gn_b2
    have K30 := K27.wr W30 (Or.inr sz_b2)
    refine g_dup C X30 d38_66 67 rfl ?_
    refine g_bipush C X30 d38_67 69 (v := 9) rfl ?_
    refine g_ldc2 C X30 (w_206 hw) d38_69 72 ?_
    refine g_lastore C X30 (i := 9) e30 f32 (by decide) rfl (Nat.le_of_ble_eq_true rfl) d38_72 73 (fun T33 h33 X33 e33 W33 A33 => ?_)
    have f34 := f31.other W33 n3
    have f35 : Arv Z h33 b2 ki2 .long 10 [(.long (1 : Int64)), (.long (10 : Int64)), (.long (100 : Int64)), (.long (1000 : Int64)), (.long (10000 : Int64)), (.long (100000 : Int64)), (.long (1000000 : Int64)), (.long (10000000 : Int64)), (.long (100000000 : Int64)), (.long (1000000000 : Int64))] (.long (0 : Int64)) := A33
    have N33 := Fr.snoc X33 N30 gn_b2
    have K33 := K30.wr W33 (Or.inr sz_b2)
    refine g_astore C X33 d38_73 75 rfl (ls' := #[rv o2, iv i1, jv x1, sd, iv i2, iv i3, rv b2]) rfl ?_
    refine g_aloadN C X33 d38_75 76 rfl rfl ?_
    refine g_iloadN C X33 d38_76 77 rfl ?_
    refine g_iload C X33 d38_77 79 rfl ?_
    refine g_iadd C X33 d38_79 80 ?_
    refine g_bipush C X33 d38_80 82 (v := 48) rfl ?_
    refine g_lloadN C X33 d38_82 83 rfl ?_
    refine g_aload C X33 d38_83 85 rfl rfl ?_
    refine g_iload C X33 d38_85 87 rfl ?_
    refine g_iconst C X33 d38_87 88 (v := 1) rfl ?_
    refine g_isub C X33 d38_88 89 ?_
    refine g_iload C X33 d38_89 91 rfl ?_
    refine g_isub C X33 d38_91 92 ?_
    refine g_laload C X33 e33 f35 (p10_in (dig_sub hj hd (ix_lt hj hd (Nat.lt_trans h10 (by decide)) (Nat.lt_of_le_of_lt (dg_pos nn1).2 (by decide)) hc4)) (show (dg nn1 - 1 - j1) < 10 from by have := (dg_pos nn1).2; omega)) (v := (.long (Int64.ofNat (10 ^ (dg nn1 - 1 - j1))))) (p10_get (dig_sub hj hd (ix_lt hj hd (Nat.lt_trans h10 (by decide)) (Nat.lt_of_le_of_lt (dg_pos nn1).2 (by decide)) hc4)) (show (dg nn1 - 1 - j1) < 10 from by have := (dg_pos nn1).2; omega)) d38_92 93 ?_
    refine g_ldiv C X33 d38_93 94 (p10_ne (show (dg nn1 - 1 - j1) < 10 from by have := (dg_pos nn1).2; omega)) ?_
    refine g_ldc2 C X33 (w_198 hw) d38_94 97 ?_
    refine g_lrem C X33 d38_97 98 (by decide) ?_
    refine g_l2i C X33 d38_98 99 ?_
    rw [dig_val hv hn (show (dg nn1 - 1 - j1) < 10 from by have := (dg_pos nn1).2; omega)]
    have hlt := (ix_lt hj hd (Nat.lt_trans h10 (by decide)) (Nat.lt_of_le_of_lt (dg_pos nn1).2 (by decide)) hc4)
    have hl2n := one_len hl2 hlt
    refine g_iadd C X33 d38_99 100 ?_
    refine g_i2c C X33 d38_100 101 ?_
    have fb := f34.pad (pad_rep (l2.map Value.int) (.int 0) 1)
    refine g_castore C X33 (i := (l1.length + j1)) e33 fb (set_in (m := 28) (one_ix hp hj) rfl (by omega) (by decide)) (set_nat (one_ix hp hj) (by omega)) (set_lt hl2n.symm) d38_101 102 (fun T36 h36 X36 e36 W36 A36 => ?_)
    have f38 : Arv Z h36 o2 kd1 .char 28 ((l1 ++ (low nn1 (dg nn1)).take (j1 + 1)).map Value.int) (.int 0) := ((set_app hl2n.symm (nar_chc (Nat.mod_lt _ (by decide)))).trans (congrArg (List.map Value.int) (one_lt hl2 hlt))) ▸ A36
    have N36 := Fr.snoc X36 N33 gn_o2
    have K36 := K33.wr W36 (Or.inl (List.mem_of_getElem? (i := 0) rfl))
    exact g_retV C X36 K d38_102 (by decide) (by decide) e36 ⟨rfl, N36, K36, f38⟩
theorem ef_36rii (m : MethodId) (a1 : Addr) (a2 : Int32) (a3 : Int32) : entryFrame m #[(.ref a1), (.int a2), (.int a3)] 7 = mkF m 0 #[rv a1, iv a2, iv a3, uu, uu, uu, uu] [] := by first | (simp [entryFrame, mkF, argsToLocals, Value.category, iv, rv, jv, nv, uu, sd]; done) | rfl
theorem d36_0 : decode method_6_code 0 = .ok (.iload_n 1, 1) := by decide +kernel
theorem d36_1 : decode method_6_code 1 = .ok (.istore_n 3, 1) := by decide +kernel
theorem d36_2 : decode method_6_code 2 = .ok (.iload_n 2, 1) := by decide +kernel
theorem d36_3 : decode method_6_code 3 = .ok (.i2l, 1) := by decide +kernel
theorem d36_4 : decode method_6_code 4 = .ok (.lstore 4, 2) := by decide +kernel
theorem d36_6 : decode method_6_code 6 = .ok (.lload 4, 2) := by decide +kernel
theorem d36_8 : decode method_6_code 8 = .ok (.lconst 0, 1) := by decide +kernel
theorem d36_9 : decode method_6_code 9 = .ok (.lcmp, 1) := by decide +kernel
theorem d36_10 : decode method_6_code 10 = .ok (.ifCond .ge 17, 3) := by decide +kernel
theorem d36_27 : decode method_6_code 27 = .ok (.lload 4, 2) := by decide +kernel
theorem d36_29 : decode method_6_code 29 = .ok (.invokestatic 65, 3) := by decide +kernel
theorem w_197 (hw : OwnW a0 Z) : Cond.before (.code ⟨"com/example/mortise/mortise/core/ProblemLocationPinLaw", "digits", "(J)I"⟩ method_4_code (3 : Nat) (Option.some Jvm.ClassFile.FieldType.int)) a0 Z = true := wA hw 197 rfl
theorem w_193 (hw : OwnW a0 Z) : Cond.before (.initialized "com/example/mortise/mortise/core/ProblemLocationPinLaw") a0 Z = true := wA hw 193 rfl
theorem w_195 (hw : OwnW a0 Z) : Cond.before (.methodLink "com/example/mortise/mortise/core/ProblemLocationPinLaw" (65 : Nat) ⟨"com/example/mortise/mortise/core/ProblemLocationPinLaw", "digits", "(J)I"⟩) a0 Z = true := wA hw 195 rfl
theorem pd_26 : parseMethodDescriptor "(J)I" = some ⟨[.long], some .int⟩ := by decide +kernel
theorem w_196 (hw : OwnW a0 Z) : Cond.before (.static ⟨"com/example/mortise/mortise/core/ProblemLocationPinLaw", "digits", "(J)I"⟩) a0 Z = true := wA hw 196 rfl
theorem b_17 (hw : OwnW a0 Z) : CallS "com/example/mortise/mortise/core/ProblemLocationPinLaw" 65 (⟨"com/example/mortise/mortise/core/ProblemLocationPinLaw", "digits", "(J)I"⟩ : MethodName) method_4_code (3 : Nat) (Option.some Jvm.ClassFile.FieldType.int) a0 Z := ⟨(w_195 hw), (w_196 hw), (w_193 hw), (w_197 hw)⟩
theorem d36_32 : decode method_6_code 32 = .ok (.istore 6, 2) := by decide +kernel
theorem d36_34 : decode method_6_code 34 = .ok (.aload_n 0, 1) := by decide +kernel
theorem d36_35 : decode method_6_code 35 = .ok (.iload_n 3, 1) := by decide +kernel
theorem d36_36 : decode method_6_code 36 = .ok (.lload 4, 2) := by decide +kernel
theorem d36_38 : decode method_6_code 38 = .ok (.iload 6, 2) := by decide +kernel
theorem d36_40 : decode method_6_code 40 = .ok (.iconst 0, 1) := by decide +kernel
theorem d36_41 : decode method_6_code 41 = .ok (.invokestatic 69, 3) := by decide +kernel
theorem w_209 (hw : OwnW a0 Z) : Cond.before (.code ⟨"com/example/mortise/mortise/core/ProblemLocationPinLaw", "one", "([CIJII)V"⟩ method_5_code (7 : Nat) (Option.none : Option Jvm.ClassFile.FieldType)) a0 Z = true := wA hw 209 rfl
theorem w_207 (hw : OwnW a0 Z) : Cond.before (.methodLink "com/example/mortise/mortise/core/ProblemLocationPinLaw" (69 : Nat) ⟨"com/example/mortise/mortise/core/ProblemLocationPinLaw", "one", "([CIJII)V"⟩) a0 Z = true := wA hw 207 rfl
theorem pd_27 : parseMethodDescriptor "([CIJII)V" = some ⟨[(.array .char), .int, .long, .int, .int], none⟩ := by decide +kernel
theorem w_208 (hw : OwnW a0 Z) : Cond.before (.static ⟨"com/example/mortise/mortise/core/ProblemLocationPinLaw", "one", "([CIJII)V"⟩) a0 Z = true := wA hw 208 rfl
theorem d36_44 : decode method_6_code 44 = .ok (.aload_n 0, 1) := by decide +kernel
theorem d36_45 : decode method_6_code 45 = .ok (.iload_n 3, 1) := by decide +kernel
theorem d36_46 : decode method_6_code 46 = .ok (.lload 4, 2) := by decide +kernel
theorem d36_48 : decode method_6_code 48 = .ok (.iload 6, 2) := by decide +kernel
theorem d36_50 : decode method_6_code 50 = .ok (.iconst 1, 1) := by decide +kernel
theorem d36_51 : decode method_6_code 51 = .ok (.invokestatic 69, 3) := by decide +kernel
theorem d36_54 : decode method_6_code 54 = .ok (.aload_n 0, 1) := by decide +kernel
theorem d36_55 : decode method_6_code 55 = .ok (.iload_n 3, 1) := by decide +kernel
theorem d36_56 : decode method_6_code 56 = .ok (.lload 4, 2) := by decide +kernel
theorem d36_58 : decode method_6_code 58 = .ok (.iload 6, 2) := by decide +kernel
theorem d36_60 : decode method_6_code 60 = .ok (.iconst 2, 1) := by decide +kernel
theorem d36_61 : decode method_6_code 61 = .ok (.invokestatic 69, 3) := by decide +kernel
theorem d36_64 : decode method_6_code 64 = .ok (.aload_n 0, 1) := by decide +kernel
theorem d36_65 : decode method_6_code 65 = .ok (.iload_n 3, 1) := by decide +kernel
theorem d36_66 : decode method_6_code 66 = .ok (.lload 4, 2) := by decide +kernel
theorem d36_68 : decode method_6_code 68 = .ok (.iload 6, 2) := by decide +kernel
theorem d36_70 : decode method_6_code 70 = .ok (.iconst 3, 1) := by decide +kernel
theorem d36_71 : decode method_6_code 71 = .ok (.invokestatic 69, 3) := by decide +kernel
theorem d36_74 : decode method_6_code 74 = .ok (.aload_n 0, 1) := by decide +kernel
theorem d36_75 : decode method_6_code 75 = .ok (.iload_n 3, 1) := by decide +kernel
theorem d36_76 : decode method_6_code 76 = .ok (.lload 4, 2) := by decide +kernel
theorem d36_78 : decode method_6_code 78 = .ok (.iload 6, 2) := by decide +kernel
theorem d36_80 : decode method_6_code 80 = .ok (.iconst 4, 1) := by decide +kernel
theorem d36_81 : decode method_6_code 81 = .ok (.invokestatic 69, 3) := by decide +kernel
theorem d36_84 : decode method_6_code 84 = .ok (.aload_n 0, 1) := by decide +kernel
theorem d36_85 : decode method_6_code 85 = .ok (.iload_n 3, 1) := by decide +kernel
theorem d36_86 : decode method_6_code 86 = .ok (.lload 4, 2) := by decide +kernel
theorem d36_88 : decode method_6_code 88 = .ok (.iload 6, 2) := by decide +kernel
theorem d36_90 : decode method_6_code 90 = .ok (.iconst 5, 1) := by decide +kernel
theorem d36_91 : decode method_6_code 91 = .ok (.invokestatic 69, 3) := by decide +kernel
theorem d36_94 : decode method_6_code 94 = .ok (.aload_n 0, 1) := by decide +kernel
theorem d36_95 : decode method_6_code 95 = .ok (.iload_n 3, 1) := by decide +kernel
theorem d36_96 : decode method_6_code 96 = .ok (.lload 4, 2) := by decide +kernel
theorem d36_98 : decode method_6_code 98 = .ok (.iload 6, 2) := by decide +kernel
theorem d36_100 : decode method_6_code 100 = .ok (.bipush 6, 2) := by decide +kernel
theorem d36_102 : decode method_6_code 102 = .ok (.invokestatic 69, 3) := by decide +kernel
theorem d36_105 : decode method_6_code 105 = .ok (.aload_n 0, 1) := by decide +kernel
theorem d36_106 : decode method_6_code 106 = .ok (.iload_n 3, 1) := by decide +kernel
theorem d36_107 : decode method_6_code 107 = .ok (.lload 4, 2) := by decide +kernel
theorem d36_109 : decode method_6_code 109 = .ok (.iload 6, 2) := by decide +kernel
theorem d36_111 : decode method_6_code 111 = .ok (.bipush 7, 2) := by decide +kernel
theorem d36_113 : decode method_6_code 113 = .ok (.invokestatic 69, 3) := by decide +kernel
theorem d36_116 : decode method_6_code 116 = .ok (.aload_n 0, 1) := by decide +kernel
theorem d36_117 : decode method_6_code 117 = .ok (.iload_n 3, 1) := by decide +kernel
theorem d36_118 : decode method_6_code 118 = .ok (.lload 4, 2) := by decide +kernel
theorem d36_120 : decode method_6_code 120 = .ok (.iload 6, 2) := by decide +kernel
theorem d36_122 : decode method_6_code 122 = .ok (.bipush 8, 2) := by decide +kernel
theorem d36_124 : decode method_6_code 124 = .ok (.invokestatic 69, 3) := by decide +kernel
theorem d36_127 : decode method_6_code 127 = .ok (.aload_n 0, 1) := by decide +kernel
theorem d36_128 : decode method_6_code 128 = .ok (.iload_n 3, 1) := by decide +kernel
theorem d36_129 : decode method_6_code 129 = .ok (.lload 4, 2) := by decide +kernel
theorem d36_131 : decode method_6_code 131 = .ok (.iload 6, 2) := by decide +kernel
theorem d36_133 : decode method_6_code 133 = .ok (.bipush 9, 2) := by decide +kernel
theorem d36_135 : decode method_6_code 135 = .ok (.invokestatic 69, 3) := by decide +kernel
theorem d36_138 : decode method_6_code 138 = .ok (.iload_n 3, 1) := by decide +kernel
theorem d36_139 : decode method_6_code 139 = .ok (.iload 6, 2) := by decide +kernel
theorem d36_141 : decode method_6_code 141 = .ok (.iadd, 1) := by decide +kernel
theorem d36_142 : decode method_6_code 142 = .ok (.ireturn, 1) := by decide +kernel
theorem d36_13 : decode method_6_code 13 = .ok (.aload_n 0, 1) := by decide +kernel
theorem d36_14 : decode method_6_code 14 = .ok (.iload_n 3, 1) := by decide +kernel
theorem d36_15 : decode method_6_code 15 = .ok (.bipush 45, 2) := by decide +kernel
theorem d36_17 : decode method_6_code 17 = .ok (.castore, 1) := by decide +kernel
theorem d36_18 : decode method_6_code 18 = .ok (.iload_n 3, 1) := by decide +kernel
theorem d36_19 : decode method_6_code 19 = .ok (.iconst 1, 1) := by decide +kernel
theorem d36_20 : decode method_6_code 20 = .ok (.iadd, 1) := by decide +kernel
theorem d36_21 : decode method_6_code 21 = .ok (.istore_n 3, 1) := by decide +kernel
theorem d36_22 : decode method_6_code 22 = .ok (.lload 4, 2) := by decide +kernel
theorem d36_24 : decode method_6_code 24 = .ok (.lneg, 1) := by decide +kernel
theorem d36_25 : decode method_6_code 25 = .ok (.lstore 4, 2) := by decide +kernel
def Q36 (Z : State) (o2 : Addr) (i1 : Int32) (x1 : Int32) (kd1 : ClassId) (l1 : List Int32) (h0 : Heap) (n0 : Nat) (v : Option Value) (h : Heap) (L : List Loc) : Prop := v = some (.int (Int32.ofNat (l1 ++ decI x1).length)) ∧ Fr n0 L ∧ Keep h0 h [o2] ∧ Arv Z h o2 kd1 .char 28 ((l1 ++ decI x1).map Value.int) (.int 0)
abbrev y36 : MethodName := (⟨"com/example/mortise/mortise/core/ProblemLocationPinLaw", "put", "([CII)I"⟩ : MethodName)
theorem rm36 {o2 : Addr} {i1 x1 : Int32} {kd1 : ClassId} {l1 : List Int32} (hw : OwnW a0 Z) (Z0 : n0 ≤ h0.size) (F0 : Arv Z h0 o2 kd1 .char 28 (l1.map Value.int) (.int 0)) (gn_o2 : n0 ≤ o2) (hp : Int32.ofNat l1.length = i1) (hl : l1.length ≤ 17) : OwnMF l Z y36 method_6_code 7 (some .int) ws ⟨1, 10, 100, 18⟩ #[(.ref o2), (.int i1), (.int x1)] h0 (Q36 Z o2 i1 x1 kd1 l1 h0 n0) := by
  refine bo (plainFor_of_name pn_0) ?_
  intro p e s m below meth c T0 G C hnm hnamed X0 e0 K
  have N0 := Fr.nil n0
  refine Goes.to (congrArg T0.setTop (ef_36rii m o2 i1 x1)) ?_
  have K00 := Keep.refl h0 [o2]
  obtain ⟨nn1, hN⟩ : ∃ n : Nat, x1.toInt.natAbs = n := ⟨_, rfl⟩
  have hn : nn1 ≤ 2 ^ 31 := hN ▸ natAbs_le x1
  have d10 := dg_pos nn1
  refine g_iloadN C X0 d36_0 1 rfl ?_
  refine g_istoreN C X0 d36_1 2 (w := i1) rfl (ls' := #[rv o2, iv i1, iv x1, iv i1, uu, uu, uu]) rfl ?_
  refine g_iloadN C X0 d36_2 3 rfl ?_
  refine g_i2l C X0 d36_3 4 ?_
  refine g_lstore C X0 d36_4 6 (w := x1.toInt64) rfl (ls' := #[rv o2, iv i1, iv x1, iv i1, jv x1.toInt64, sd, uu]) rfl ?_
  refine g_lload C X0 d36_6 8 rfl ?_
  refine g_lconst C X0 d36_8 9 (v := 0) rfl ?_
  refine g_lcmp_ge C X0 d36_9 10 d36_10 27 13 (fun hc10 => ?_) (fun hc10 => ?_)
  · refine g_lload C X0 d36_27 29 rfl ?_
    refine g_callS0 C X0 (b_17 hw) d36_29 [(.long x1.toInt64)] [] 0 (rm37 hw Z0) N0 pd_26 e0 32 (fun T1 _ X1 N1 e1 => ?_)
    rw [len_eq (i64p (fun q => hc10 ((l0 x1).mpr q)) hN)]
    refine g_istore C X1 d36_32 34 (w := (Int32.ofNat (dg nn1))) rfl (ls' := #[rv o2, iv i1, iv x1, iv i1, jv x1.toInt64, sd, iv (Int32.ofNat (dg nn1))]) rfl ?_
    refine g_aloadN C X1 d36_34 35 rfl rfl ?_
    refine g_iloadN C X1 d36_35 36 rfl ?_
    refine g_lload C X1 d36_36 38 rfl ?_
    refine g_iload C X1 d36_38 40 rfl ?_
    refine g_iconst C X1 d36_40 41 (v := 0) rfl ?_
    refine g_callS C X1 (w_207 hw) (w_208 hw) (w_193 hw) (w_209 hw) d36_41 [(.ref o2), (.int i1), (.long x1.toInt64), (.int (Int32.ofNat (dg nn1))), (.int 0)] [] 0 (rm38 hw Z0 F0 gn_o2 hp (i64p (fun q => hc10 ((l0 x1).mpr q)) hN) rfl hn (show Int32.ofNat 0 = _ from rfl) (by decide) (List.append_nil _).symm (by omega)) pd_27 e1 44 (fun u2 T2 L2 X2 hQ2 => ?_)
    obtain ⟨rfl, Nq2, Kq2, q2_0⟩ := hQ2
    have N2 := Fr.app N1 Nq2
    have Z2 := Nat.le_trans Z0 Kq2.1
    have K2 := K00.trans Kq2 (allS (Or.inl (List.mem_of_getElem? (i := 0) rfl)) all0)
    refine ret0 ?_
    refine g_aloadN C X2 d36_44 45 rfl rfl ?_
    refine g_iloadN C X2 d36_45 46 rfl ?_
    refine g_lload C X2 d36_46 48 rfl ?_
    refine g_iload C X2 d36_48 50 rfl ?_
    refine g_iconst C X2 d36_50 51 (v := 1) rfl ?_
    refine g_callS C X2 (w_207 hw) (w_208 hw) (w_193 hw) (w_209 hw) d36_51 [(.ref o2), (.int i1), (.long x1.toInt64), (.int (Int32.ofNat (dg nn1))), (.int 1)] [] 0 (rm38 hw Z2 q2_0 gn_o2 hp (i64p (fun q => hc10 ((l0 x1).mpr q)) hN) rfl hn (show Int32.ofNat 1 = _ from rfl) (by decide) rfl (by omega)) pd_27 rfl 54 (fun u3 T3 L3 X3 hQ3 => ?_)
    obtain ⟨rfl, Nq3, Kq3, q3_0⟩ := hQ3
    have N3 := Fr.app N2 Nq3
    have Z3 := Nat.le_trans Z2 Kq3.1
    have K3 := K2.trans Kq3 (allS (Or.inl (List.mem_of_getElem? (i := 0) rfl)) all0)
    refine ret0 ?_
    refine g_aloadN C X3 d36_54 55 rfl rfl ?_
    refine g_iloadN C X3 d36_55 56 rfl ?_
    refine g_lload C X3 d36_56 58 rfl ?_
    refine g_iload C X3 d36_58 60 rfl ?_
    refine g_iconst C X3 d36_60 61 (v := 2) rfl ?_
    refine g_callS C X3 (w_207 hw) (w_208 hw) (w_193 hw) (w_209 hw) d36_61 [(.ref o2), (.int i1), (.long x1.toInt64), (.int (Int32.ofNat (dg nn1))), (.int 2)] [] 0 (rm38 hw Z3 q3_0 gn_o2 hp (i64p (fun q => hc10 ((l0 x1).mpr q)) hN) rfl hn (show Int32.ofNat 2 = _ from rfl) (by decide) rfl (by omega)) pd_27 rfl 64 (fun u4 T4 L4 X4 hQ4 => ?_)
    obtain ⟨rfl, Nq4, Kq4, q4_0⟩ := hQ4
    have N4 := Fr.app N3 Nq4
    have Z4 := Nat.le_trans Z3 Kq4.1
    have K4 := K3.trans Kq4 (allS (Or.inl (List.mem_of_getElem? (i := 0) rfl)) all0)
    refine ret0 ?_
    refine g_aloadN C X4 d36_64 65 rfl rfl ?_
    refine g_iloadN C X4 d36_65 66 rfl ?_
    refine g_lload C X4 d36_66 68 rfl ?_
    refine g_iload C X4 d36_68 70 rfl ?_
    refine g_iconst C X4 d36_70 71 (v := 3) rfl ?_
    refine g_callS C X4 (w_207 hw) (w_208 hw) (w_193 hw) (w_209 hw) d36_71 [(.ref o2), (.int i1), (.long x1.toInt64), (.int (Int32.ofNat (dg nn1))), (.int 3)] [] 0 (rm38 hw Z4 q4_0 gn_o2 hp (i64p (fun q => hc10 ((l0 x1).mpr q)) hN) rfl hn (show Int32.ofNat 3 = _ from rfl) (by decide) rfl (by omega)) pd_27 rfl 74 (fun u5 T5 L5 X5 hQ5 => ?_)
    obtain ⟨rfl, Nq5, Kq5, q5_0⟩ := hQ5
    have N5 := Fr.app N4 Nq5
    have Z5 := Nat.le_trans Z4 Kq5.1
    have K5 := K4.trans Kq5 (allS (Or.inl (List.mem_of_getElem? (i := 0) rfl)) all0)
    refine ret0 ?_
    refine g_aloadN C X5 d36_74 75 rfl rfl ?_
    refine g_iloadN C X5 d36_75 76 rfl ?_
    refine g_lload C X5 d36_76 78 rfl ?_
    refine g_iload C X5 d36_78 80 rfl ?_
    refine g_iconst C X5 d36_80 81 (v := 4) rfl ?_
    refine g_callS C X5 (w_207 hw) (w_208 hw) (w_193 hw) (w_209 hw) d36_81 [(.ref o2), (.int i1), (.long x1.toInt64), (.int (Int32.ofNat (dg nn1))), (.int 4)] [] 0 (rm38 hw Z5 q5_0 gn_o2 hp (i64p (fun q => hc10 ((l0 x1).mpr q)) hN) rfl hn (show Int32.ofNat 4 = _ from rfl) (by decide) rfl (by omega)) pd_27 rfl 84 (fun u6 T6 L6 X6 hQ6 => ?_)
    obtain ⟨rfl, Nq6, Kq6, q6_0⟩ := hQ6
    have N6 := Fr.app N5 Nq6
    have Z6 := Nat.le_trans Z5 Kq6.1
    have K6 := K5.trans Kq6 (allS (Or.inl (List.mem_of_getElem? (i := 0) rfl)) all0)
    refine ret0 ?_
    refine g_aloadN C X6 d36_84 85 rfl rfl ?_
    refine g_iloadN C X6 d36_85 86 rfl ?_
    refine g_lload C X6 d36_86 88 rfl ?_
    refine g_iload C X6 d36_88 90 rfl ?_
    refine g_iconst C X6 d36_90 91 (v := 5) rfl ?_
    refine g_callS C X6 (w_207 hw) (w_208 hw) (w_193 hw) (w_209 hw) d36_91 [(.ref o2), (.int i1), (.long x1.toInt64), (.int (Int32.ofNat (dg nn1))), (.int 5)] [] 0 (rm38 hw Z6 q6_0 gn_o2 hp (i64p (fun q => hc10 ((l0 x1).mpr q)) hN) rfl hn (show Int32.ofNat 5 = _ from rfl) (by decide) rfl (by omega)) pd_27 rfl 94 (fun u7 T7 L7 X7 hQ7 => ?_)
    obtain ⟨rfl, Nq7, Kq7, q7_0⟩ := hQ7
    have N7 := Fr.app N6 Nq7
    have Z7 := Nat.le_trans Z6 Kq7.1
    have K7 := K6.trans Kq7 (allS (Or.inl (List.mem_of_getElem? (i := 0) rfl)) all0)
    refine ret0 ?_
    refine g_aloadN C X7 d36_94 95 rfl rfl ?_
    refine g_iloadN C X7 d36_95 96 rfl ?_
    refine g_lload C X7 d36_96 98 rfl ?_
    refine g_iload C X7 d36_98 100 rfl ?_
    refine g_bipush C X7 d36_100 102 (v := 6) rfl ?_
    refine g_callS C X7 (w_207 hw) (w_208 hw) (w_193 hw) (w_209 hw) d36_102 [(.ref o2), (.int i1), (.long x1.toInt64), (.int (Int32.ofNat (dg nn1))), (.int 6)] [] 0 (rm38 hw Z7 q7_0 gn_o2 hp (i64p (fun q => hc10 ((l0 x1).mpr q)) hN) rfl hn (show Int32.ofNat 6 = _ from rfl) (by decide) rfl (by omega)) pd_27 rfl 105 (fun u8 T8 L8 X8 hQ8 => ?_)
    obtain ⟨rfl, Nq8, Kq8, q8_0⟩ := hQ8
    have N8 := Fr.app N7 Nq8
    have Z8 := Nat.le_trans Z7 Kq8.1
    have K8 := K7.trans Kq8 (allS (Or.inl (List.mem_of_getElem? (i := 0) rfl)) all0)
    refine ret0 ?_
    refine g_aloadN C X8 d36_105 106 rfl rfl ?_
    refine g_iloadN C X8 d36_106 107 rfl ?_
    refine g_lload C X8 d36_107 109 rfl ?_
    refine g_iload C X8 d36_109 111 rfl ?_
    refine g_bipush C X8 d36_111 113 (v := 7) rfl ?_
    refine g_callS C X8 (w_207 hw) (w_208 hw) (w_193 hw) (w_209 hw) d36_113 [(.ref o2), (.int i1), (.long x1.toInt64), (.int (Int32.ofNat (dg nn1))), (.int 7)] [] 0 (rm38 hw Z8 q8_0 gn_o2 hp (i64p (fun q => hc10 ((l0 x1).mpr q)) hN) rfl hn (show Int32.ofNat 7 = _ from rfl) (by decide) rfl (by omega)) pd_27 rfl 116 (fun u9 T9 L9 X9 hQ9 => ?_)
    obtain ⟨rfl, Nq9, Kq9, q9_0⟩ := hQ9
    have N9 := Fr.app N8 Nq9
    have Z9 := Nat.le_trans Z8 Kq9.1
    have K9 := K8.trans Kq9 (allS (Or.inl (List.mem_of_getElem? (i := 0) rfl)) all0)
    refine ret0 ?_
    refine g_aloadN C X9 d36_116 117 rfl rfl ?_
    refine g_iloadN C X9 d36_117 118 rfl ?_
    refine g_lload C X9 d36_118 120 rfl ?_
    refine g_iload C X9 d36_120 122 rfl ?_
    refine g_bipush C X9 d36_122 124 (v := 8) rfl ?_
    refine g_callS C X9 (w_207 hw) (w_208 hw) (w_193 hw) (w_209 hw) d36_124 [(.ref o2), (.int i1), (.long x1.toInt64), (.int (Int32.ofNat (dg nn1))), (.int 8)] [] 0 (rm38 hw Z9 q9_0 gn_o2 hp (i64p (fun q => hc10 ((l0 x1).mpr q)) hN) rfl hn (show Int32.ofNat 8 = _ from rfl) (by decide) rfl (by omega)) pd_27 rfl 127 (fun u10 T10 L10 X10 hQ10 => ?_)
    obtain ⟨rfl, Nq10, Kq10, q10_0⟩ := hQ10
    have N10 := Fr.app N9 Nq10
    have Z10 := Nat.le_trans Z9 Kq10.1
    have K10 := K9.trans Kq10 (allS (Or.inl (List.mem_of_getElem? (i := 0) rfl)) all0)
    refine ret0 ?_
    refine g_aloadN C X10 d36_127 128 rfl rfl ?_
    refine g_iloadN C X10 d36_128 129 rfl ?_
    refine g_lload C X10 d36_129 131 rfl ?_
    refine g_iload C X10 d36_131 133 rfl ?_
    refine g_bipush C X10 d36_133 135 (v := 9) rfl ?_
    refine g_callS C X10 (w_207 hw) (w_208 hw) (w_193 hw) (w_209 hw) d36_135 [(.ref o2), (.int i1), (.long x1.toInt64), (.int (Int32.ofNat (dg nn1))), (.int 9)] [] 0 (rm38 hw Z10 q10_0 gn_o2 hp (i64p (fun q => hc10 ((l0 x1).mpr q)) hN) rfl hn (show Int32.ofNat 9 = _ from rfl) (by decide) rfl (by omega)) pd_27 rfl 138 (fun u11 T11 L11 X11 hQ11 => ?_)
    obtain ⟨rfl, Nq11, Kq11, q11_0⟩ := hQ11
    have N11 := Fr.app N10 Nq11
    have K11 := K10.trans Kq11 (allS (Or.inl (List.mem_of_getElem? (i := 0) rfl)) all0)
    refine ret0 ?_
    have f12 : Arv Z T11.heap o2 kd1 .char 28 ((l1 ++ decI x1).map Value.int) (.int 0) := by rw [← put_q hN (fun q => hc10 ((l0 x1).mpr q))]; exact q11_0
    refine g_iloadN C X11 d36_138 139 rfl ?_
    refine g_iload C X11 d36_139 141 rfl ?_
    refine g_iadd C X11 d36_141 142 ?_
    exact g_retI C X11 K d36_142 (by decide) (by decide) rfl ⟨(congrArg (fun z => some (Value.int z)) (put_vq hp hN (fun q => hc10 ((l0 x1).mpr q)))), N11, K11, f12⟩
  · refine g_aloadN C X0 d36_13 14 rfl rfl ?_
    refine g_iloadN C X0 d36_14 15 rfl ?_
    refine g_bipush C X0 d36_15 17 (v := 45) rfl ?_
    have fb := F0.pad (pad_rep (l1.map Value.int) (.int 0) 1)
    refine g_castore C X0 (i := l1.length) e0 fb (set_in (m := 28) hp rfl (by omega) (by decide)) (set_nat hp (by omega)) (set_lt rfl) d36_17 18 (fun T13 h13 X13 e13 W13 A13 => ?_)
    have f14 : Arv Z h13 o2 kd1 .char 28 ((l1 ++ [45]).map Value.int) (.int 0) := (set_app rfl (show nar .char (45 : Int32) = 45 from by decide +kernel)) ▸ A13
    have N13 := Fr.snoc X13 N0 gn_o2
    have Z13 := Nat.le_trans Z0 (Nat.le_of_eq W13.size.symm)
    have K13 := K00.wr W13 (Or.inl (List.mem_of_getElem? (i := 0) rfl))
    refine g_iloadN C X13 d36_18 19 rfl ?_
    refine g_iconst C X13 d36_19 20 (v := 1) rfl ?_
    refine g_iadd C X13 d36_20 21 ?_
    refine g_istoreN C X13 d36_21 22 (w := (i1 + (1 : Int32))) rfl (ls' := #[rv o2, iv i1, iv x1, iv (i1 + (1 : Int32)), jv x1.toInt64, sd, uu]) rfl ?_
    refine g_lload C X13 d36_22 24 rfl ?_
    refine g_lneg C X13 d36_24 25 ?_
    refine g_lstore C X13 d36_25 27 (w := (-x1.toInt64)) rfl (ls' := #[rv o2, iv i1, iv x1, iv (i1 + (1 : Int32)), jv (-x1.toInt64), sd, uu]) rfl ?_
    refine g_lload C X13 d36_27 29 rfl ?_
    refine g_callS0 C X13 (b_17 hw) d36_29 [(.long (-x1.toInt64))] [] 0 (rm37 hw Z13) N13 pd_26 e13 32 (fun T15 _ X15 N15 e15 => ?_)
    rw [len_eq (i64n ((l0 x1).mp hc10) hN)]
    refine g_istore C X15 d36_32 34 (w := (Int32.ofNat (dg nn1))) rfl (ls' := #[rv o2, iv i1, iv x1, iv (i1 + (1 : Int32)), jv (-x1.toInt64), sd, iv (Int32.ofNat (dg nn1))]) rfl ?_
    refine g_aloadN C X15 d36_34 35 rfl rfl ?_
    refine g_iloadN C X15 d36_35 36 rfl ?_
    refine g_lload C X15 d36_36 38 rfl ?_
    refine g_iload C X15 d36_38 40 rfl ?_
    refine g_iconst C X15 d36_40 41 (v := 0) rfl ?_
    refine g_callS C X15 (w_207 hw) (w_208 hw) (w_193 hw) (w_209 hw) d36_41 [(.ref o2), (.int (i1 + (1 : Int32))), (.long (-x1.toInt64)), (.int (Int32.ofNat (dg nn1))), (.int 0)] [] 0 (rm38 hw Z13 f14 gn_o2 (put_p (x := 45) hp) (i64n ((l0 x1).mp hc10) hN) rfl hn (show Int32.ofNat 0 = _ from rfl) (by decide) (List.append_nil _).symm (by rw [List.length_append]; exact (show l1.length + 1 + dg nn1 ≤ 28 from by omega))) pd_27 e15 44 (fun u16 T16 L16 X16 hQ16 => ?_)
    obtain ⟨rfl, Nq16, Kq16, q16_0⟩ := hQ16
    have N16 := Fr.app N15 Nq16
    have Z16 := Nat.le_trans Z13 Kq16.1
    have K16 := K13.trans Kq16 (allS (Or.inl (List.mem_of_getElem? (i := 0) rfl)) all0)
    refine ret0 ?_
    refine g_aloadN C X16 d36_44 45 rfl rfl ?_
    refine g_iloadN C X16 d36_45 46 rfl ?_
    refine g_lload C X16 d36_46 48 rfl ?_
    refine g_iload C X16 d36_48 50 rfl ?_
    refine g_iconst C X16 d36_50 51 (v := 1) rfl ?_
    refine g_callS C X16 (w_207 hw) (w_208 hw) (w_193 hw) (w_209 hw) d36_51 [(.ref o2), (.int (i1 + (1 : Int32))), (.long (-x1.toInt64)), (.int (Int32.ofNat (dg nn1))), (.int 1)] [] 0 (rm38 hw Z16 q16_0 gn_o2 (put_p (x := 45) hp) (i64n ((l0 x1).mp hc10) hN) rfl hn (show Int32.ofNat 1 = _ from rfl) (by decide) rfl (by rw [List.length_append]; exact (show l1.length + 1 + dg nn1 ≤ 28 from by omega))) pd_27 rfl 54 (fun u17 T17 L17 X17 hQ17 => ?_)
    obtain ⟨rfl, Nq17, Kq17, q17_0⟩ := hQ17
    have N17 := Fr.app N16 Nq17
    have Z17 := Nat.le_trans Z16 Kq17.1
    have K17 := K16.trans Kq17 (allS (Or.inl (List.mem_of_getElem? (i := 0) rfl)) all0)
    refine ret0 ?_
    refine g_aloadN C X17 d36_54 55 rfl rfl ?_
    refine g_iloadN C X17 d36_55 56 rfl ?_
    refine g_lload C X17 d36_56 58 rfl ?_
    refine g_iload C X17 d36_58 60 rfl ?_
    refine g_iconst C X17 d36_60 61 (v := 2) rfl ?_
    refine g_callS C X17 (w_207 hw) (w_208 hw) (w_193 hw) (w_209 hw) d36_61 [(.ref o2), (.int (i1 + (1 : Int32))), (.long (-x1.toInt64)), (.int (Int32.ofNat (dg nn1))), (.int 2)] [] 0 (rm38 hw Z17 q17_0 gn_o2 (put_p (x := 45) hp) (i64n ((l0 x1).mp hc10) hN) rfl hn (show Int32.ofNat 2 = _ from rfl) (by decide) rfl (by rw [List.length_append]; exact (show l1.length + 1 + dg nn1 ≤ 28 from by omega))) pd_27 rfl 64 (fun u18 T18 L18 X18 hQ18 => ?_)
    obtain ⟨rfl, Nq18, Kq18, q18_0⟩ := hQ18
    have N18 := Fr.app N17 Nq18
    have Z18 := Nat.le_trans Z17 Kq18.1
    have K18 := K17.trans Kq18 (allS (Or.inl (List.mem_of_getElem? (i := 0) rfl)) all0)
    refine ret0 ?_
    refine g_aloadN C X18 d36_64 65 rfl rfl ?_
    refine g_iloadN C X18 d36_65 66 rfl ?_
    refine g_lload C X18 d36_66 68 rfl ?_
    refine g_iload C X18 d36_68 70 rfl ?_
    refine g_iconst C X18 d36_70 71 (v := 3) rfl ?_
    refine g_callS C X18 (w_207 hw) (w_208 hw) (w_193 hw) (w_209 hw) d36_71 [(.ref o2), (.int (i1 + (1 : Int32))), (.long (-x1.toInt64)), (.int (Int32.ofNat (dg nn1))), (.int 3)] [] 0 (rm38 hw Z18 q18_0 gn_o2 (put_p (x := 45) hp) (i64n ((l0 x1).mp hc10) hN) rfl hn (show Int32.ofNat 3 = _ from rfl) (by decide) rfl (by rw [List.length_append]; exact (show l1.length + 1 + dg nn1 ≤ 28 from by omega))) pd_27 rfl 74 (fun u19 T19 L19 X19 hQ19 => ?_)
    obtain ⟨rfl, Nq19, Kq19, q19_0⟩ := hQ19
    have N19 := Fr.app N18 Nq19
    have Z19 := Nat.le_trans Z18 Kq19.1
    have K19 := K18.trans Kq19 (allS (Or.inl (List.mem_of_getElem? (i := 0) rfl)) all0)
    refine ret0 ?_
    refine g_aloadN C X19 d36_74 75 rfl rfl ?_
    refine g_iloadN C X19 d36_75 76 rfl ?_
    refine g_lload C X19 d36_76 78 rfl ?_
    refine g_iload C X19 d36_78 80 rfl ?_
    refine g_iconst C X19 d36_80 81 (v := 4) rfl ?_
    refine g_callS C X19 (w_207 hw) (w_208 hw) (w_193 hw) (w_209 hw) d36_81 [(.ref o2), (.int (i1 + (1 : Int32))), (.long (-x1.toInt64)), (.int (Int32.ofNat (dg nn1))), (.int 4)] [] 0 (rm38 hw Z19 q19_0 gn_o2 (put_p (x := 45) hp) (i64n ((l0 x1).mp hc10) hN) rfl hn (show Int32.ofNat 4 = _ from rfl) (by decide) rfl (by rw [List.length_append]; exact (show l1.length + 1 + dg nn1 ≤ 28 from by omega))) pd_27 rfl 84 (fun u20 T20 L20 X20 hQ20 => ?_)
    obtain ⟨rfl, Nq20, Kq20, q20_0⟩ := hQ20
    have N20 := Fr.app N19 Nq20
    have Z20 := Nat.le_trans Z19 Kq20.1
    have K20 := K19.trans Kq20 (allS (Or.inl (List.mem_of_getElem? (i := 0) rfl)) all0)
    refine ret0 ?_
    refine g_aloadN C X20 d36_84 85 rfl rfl ?_
    refine g_iloadN C X20 d36_85 86 rfl ?_
    refine g_lload C X20 d36_86 88 rfl ?_
    refine g_iload C X20 d36_88 90 rfl ?_
    refine g_iconst C X20 d36_90 91 (v := 5) rfl ?_
    refine g_callS C X20 (w_207 hw) (w_208 hw) (w_193 hw) (w_209 hw) d36_91 [(.ref o2), (.int (i1 + (1 : Int32))), (.long (-x1.toInt64)), (.int (Int32.ofNat (dg nn1))), (.int 5)] [] 0 (rm38 hw Z20 q20_0 gn_o2 (put_p (x := 45) hp) (i64n ((l0 x1).mp hc10) hN) rfl hn (show Int32.ofNat 5 = _ from rfl) (by decide) rfl (by rw [List.length_append]; exact (show l1.length + 1 + dg nn1 ≤ 28 from by omega))) pd_27 rfl 94 (fun u21 T21 L21 X21 hQ21 => ?_)
    obtain ⟨rfl, Nq21, Kq21, q21_0⟩ := hQ21
    have N21 := Fr.app N20 Nq21
    have Z21 := Nat.le_trans Z20 Kq21.1
    have K21 := K20.trans Kq21 (allS (Or.inl (List.mem_of_getElem? (i := 0) rfl)) all0)
    refine ret0 ?_
    refine g_aloadN C X21 d36_94 95 rfl rfl ?_
    refine g_iloadN C X21 d36_95 96 rfl ?_
    refine g_lload C X21 d36_96 98 rfl ?_
    refine g_iload C X21 d36_98 100 rfl ?_
    refine g_bipush C X21 d36_100 102 (v := 6) rfl ?_
    refine g_callS C X21 (w_207 hw) (w_208 hw) (w_193 hw) (w_209 hw) d36_102 [(.ref o2), (.int (i1 + (1 : Int32))), (.long (-x1.toInt64)), (.int (Int32.ofNat (dg nn1))), (.int 6)] [] 0 (rm38 hw Z21 q21_0 gn_o2 (put_p (x := 45) hp) (i64n ((l0 x1).mp hc10) hN) rfl hn (show Int32.ofNat 6 = _ from rfl) (by decide) rfl (by rw [List.length_append]; exact (show l1.length + 1 + dg nn1 ≤ 28 from by omega))) pd_27 rfl 105 (fun u22 T22 L22 X22 hQ22 => ?_)
    obtain ⟨rfl, Nq22, Kq22, q22_0⟩ := hQ22
    have N22 := Fr.app N21 Nq22
    have Z22 := Nat.le_trans Z21 Kq22.1
    have K22 := K21.trans Kq22 (allS (Or.inl (List.mem_of_getElem? (i := 0) rfl)) all0)
    refine ret0 ?_
    refine g_aloadN C X22 d36_105 106 rfl rfl ?_
    refine g_iloadN C X22 d36_106 107 rfl ?_
    refine g_lload C X22 d36_107 109 rfl ?_
    refine g_iload C X22 d36_109 111 rfl ?_
    refine g_bipush C X22 d36_111 113 (v := 7) rfl ?_
    refine g_callS C X22 (w_207 hw) (w_208 hw) (w_193 hw) (w_209 hw) d36_113 [(.ref o2), (.int (i1 + (1 : Int32))), (.long (-x1.toInt64)), (.int (Int32.ofNat (dg nn1))), (.int 7)] [] 0 (rm38 hw Z22 q22_0 gn_o2 (put_p (x := 45) hp) (i64n ((l0 x1).mp hc10) hN) rfl hn (show Int32.ofNat 7 = _ from rfl) (by decide) rfl (by rw [List.length_append]; exact (show l1.length + 1 + dg nn1 ≤ 28 from by omega))) pd_27 rfl 116 (fun u23 T23 L23 X23 hQ23 => ?_)
    obtain ⟨rfl, Nq23, Kq23, q23_0⟩ := hQ23
    have N23 := Fr.app N22 Nq23
    have Z23 := Nat.le_trans Z22 Kq23.1
    have K23 := K22.trans Kq23 (allS (Or.inl (List.mem_of_getElem? (i := 0) rfl)) all0)
    refine ret0 ?_
    refine g_aloadN C X23 d36_116 117 rfl rfl ?_
    refine g_iloadN C X23 d36_117 118 rfl ?_
    refine g_lload C X23 d36_118 120 rfl ?_
    refine g_iload C X23 d36_120 122 rfl ?_
    refine g_bipush C X23 d36_122 124 (v := 8) rfl ?_
    refine g_callS C X23 (w_207 hw) (w_208 hw) (w_193 hw) (w_209 hw) d36_124 [(.ref o2), (.int (i1 + (1 : Int32))), (.long (-x1.toInt64)), (.int (Int32.ofNat (dg nn1))), (.int 8)] [] 0 (rm38 hw Z23 q23_0 gn_o2 (put_p (x := 45) hp) (i64n ((l0 x1).mp hc10) hN) rfl hn (show Int32.ofNat 8 = _ from rfl) (by decide) rfl (by rw [List.length_append]; exact (show l1.length + 1 + dg nn1 ≤ 28 from by omega))) pd_27 rfl 127 (fun u24 T24 L24 X24 hQ24 => ?_)
    obtain ⟨rfl, Nq24, Kq24, q24_0⟩ := hQ24
    have N24 := Fr.app N23 Nq24
    have Z24 := Nat.le_trans Z23 Kq24.1
    have K24 := K23.trans Kq24 (allS (Or.inl (List.mem_of_getElem? (i := 0) rfl)) all0)
    refine ret0 ?_
    refine g_aloadN C X24 d36_127 128 rfl rfl ?_
    refine g_iloadN C X24 d36_128 129 rfl ?_
    refine g_lload C X24 d36_129 131 rfl ?_
    refine g_iload C X24 d36_131 133 rfl ?_
    refine g_bipush C X24 d36_133 135 (v := 9) rfl ?_
    refine g_callS C X24 (w_207 hw) (w_208 hw) (w_193 hw) (w_209 hw) d36_135 [(.ref o2), (.int (i1 + (1 : Int32))), (.long (-x1.toInt64)), (.int (Int32.ofNat (dg nn1))), (.int 9)] [] 0 (rm38 hw Z24 q24_0 gn_o2 (put_p (x := 45) hp) (i64n ((l0 x1).mp hc10) hN) rfl hn (show Int32.ofNat 9 = _ from rfl) (by decide) rfl (by rw [List.length_append]; exact (show l1.length + 1 + dg nn1 ≤ 28 from by omega))) pd_27 rfl 138 (fun u25 T25 L25 X25 hQ25 => ?_)
    obtain ⟨rfl, Nq25, Kq25, q25_0⟩ := hQ25
    have N25 := Fr.app N24 Nq25
    have K25 := K24.trans Kq25 (allS (Or.inl (List.mem_of_getElem? (i := 0) rfl)) all0)
    refine ret0 ?_
    have f26 : Arv Z T25.heap o2 kd1 .char 28 ((l1 ++ decI x1).map Value.int) (.int 0) := by rw [← put_n hN ((l0 x1).mp hc10)]; exact q25_0
    refine g_iloadN C X25 d36_138 139 rfl ?_
    refine g_iload C X25 d36_139 141 rfl ?_
    refine g_iadd C X25 d36_141 142 ?_
    exact g_retI C X25 K d36_142 (by decide) (by decide) rfl ⟨(congrArg (fun z => some (Value.int z)) (put_vn hp hN ((l0 x1).mp hc10))), N25, K25, f26⟩
theorem ef_39rrii (m : MethodId) (a1 : Addr) (a2 : Addr) (a3 : Int32) (a4 : Int32) : entryFrame m #[(.ref a1), (.ref a2), (.int a3), (.int a4)] 4 = mkF m 0 #[rv a1, rv a2, iv a3, iv a4] [] := by first | (simp [entryFrame, mkF, argsToLocals, Value.category, iv, rv, jv, nv, uu, sd]; done) | rfl
theorem d39_0 : decode method_3_code 0 = .ok (.iload_n 3, 1) := by decide +kernel
theorem d39_1 : decode method_3_code 1 = .ok (.iload_n 2, 1) := by decide +kernel
theorem d39_2 : decode method_3_code 2 = .ok (.if_icmp .ge 14, 3) := by decide +kernel
theorem d39_16 : decode method_3_code 16 = .ok (.iconst 1, 1) := by decide +kernel
theorem d39_17 : decode method_3_code 17 = .ok (.goto 4, 3) := by decide +kernel
theorem d39_21 : decode method_3_code 21 = .ok (.ireturn, 1) := by decide +kernel
theorem d39_5 : decode method_3_code 5 = .ok (.aload_n 0, 1) := by decide +kernel
theorem d39_6 : decode method_3_code 6 = .ok (.iload_n 3, 1) := by decide +kernel
theorem d39_7 : decode method_3_code 7 = .ok (.invokevirtual 43, 3) := by decide +kernel
theorem w_219 (hw : OwnW a0 Z) : Cond.before (.code ⟨"java/lang/String", "charAt", "(I)C"⟩ jdk_42_method_56_code (2 : Nat) (Option.some Jvm.ClassFile.FieldType.char)) a0 Z = true := wA hw 219 rfl
theorem w_215 (hw : OwnW a0 Z) : Cond.before (.methodLink "com/example/mortise/mortise/core/ProblemLocationPinLaw" (43 : Nat) ⟨"java/lang/String", "charAt", "(I)C"⟩) a0 Z = true := wA hw 215 rfl
theorem pd_28 : parseMethodDescriptor "(I)C" = some ⟨[.int], some .char⟩ := by decide +kernel
theorem w_216 (hw : OwnW a0 Z) : Cond.before (.declares ⟨"java/lang/String", "charAt", "(I)C"⟩) a0 Z = true := wA hw 216 rfl
theorem w_218 (hw : OwnW a0 Z) : Cond.before (.selects "java/lang/String" ⟨"java/lang/String", "charAt", "(I)C"⟩ ⟨"java/lang/String", "charAt", "(I)C"⟩) a0 Z = true := wA hw 218 rfl
theorem w_217 (hw : OwnW a0 Z) : Cond.before (.instanceMethod ⟨"java/lang/String", "charAt", "(I)C"⟩) a0 Z = true := wA hw 217 rfl
theorem b_18 (hw : OwnW a0 Z) : CallV "com/example/mortise/mortise/core/ProblemLocationPinLaw" 43 (⟨"java/lang/String", "charAt", "(I)C"⟩ : MethodName) "java/lang/String" jdk_42_method_56_code (2 : Nat) (Option.some Jvm.ClassFile.FieldType.char) a0 Z := ⟨(w_215 hw), (w_216 hw), (w_218 hw), (w_217 hw), (w_219 hw), (w_2 hw)⟩
theorem d39_10 : decode method_3_code 10 = .ok (.aload_n 1, 1) := by decide +kernel
theorem d39_11 : decode method_3_code 11 = .ok (.iload_n 3, 1) := by decide +kernel
theorem d39_12 : decode method_3_code 12 = .ok (.caload, 1) := by decide +kernel
theorem d39_13 : decode method_3_code 13 = .ok (.if_icmp .ne 7, 3) := by decide +kernel
abbrev y39 : MethodName := (⟨"com/example/mortise/mortise/core/ProblemLocationPinLaw", "at", "(Ljava/lang/String;[CII)Z"⟩ : MethodName)
theorem rm39 {o1 o5 o2 : Addr} {i1 i3 cs1 : Int32} {kd1 kd5 : ClassId} {l1 l5 : List Int32} {j1 : Nat} {wf1 : Value} (hw : OwnW a0 Z) (Z0 : n0 ≤ h0.size) (F0 : OEs Z h0 o1) (F1 : OFv Z h0 o1 (.ref o2)) (F2 : OFc Z h0 o1) (F3 : Arv Z h0 o2 kd1 .byte (Int32.ofNat l1.length) (l1.map Value.int) (.int 0)) (F4 : Arv Z h0 o5 kd5 .char 28 (l5.map Value.int) (.int 0)) (F5 : OSc Z h0 cs1) (F6 : OSf Z h0 wf1) (hcs : ¬ cs1 = (0 : Int32)) (hwf : wf1.isRef = true) (hp : Int32.ofNat l5.length = i1) (hj : Int32.ofNat j1 = i3) (h28 : j1 < 28) (hm : l5 = l1.map own_ch) (hb : l5.length ≤ 28) : OwnMF l Z y39 method_3_code 4 (some .boolean) ws ⟨4, 0, 0, 53⟩ #[(.ref o1), (.ref o5), (.int i1), (.int i3)] h0 (OwnQ (some (.int 1)) h0 n0) := by
  refine bo (plainFor_of_name pn_0) ?_
  intro p e s m below meth c T0 G C hnm hnamed X0 e0 K
  have N0 := Fr.nil n0
  refine Goes.to (congrArg T0.setTop (ef_39rrii m o1 o5 i1 i3)) ?_
  refine g_iloadN C X0 d39_0 1 rfl ?_
  refine g_iloadN C X0 d39_1 2 rfl ?_
  refine g_icmp_ge C X0 d39_2 16 5 (fun hc2 => ?_) (fun hc2 => ?_)
  · refine g_iconst C X0 d39_16 17 (v := 1) rfl ?_
    refine g_goto C X0 d39_17 21 ?_
    exact g_retN C X0 K (by simp) d39_21 (by decide) (by decide) e0 ⟨rfl, N0, rfl⟩
  · refine g_aloadN C X0 d39_5 6 rfl rfl ?_
    refine g_iloadN C X0 d39_6 7 rfl ?_
    refine g_callV0 C X0 (b_18 hw) F0 d39_7 [(.int i3)] [] 0 (rm40_s hw Z0 F0 F1 F2 F3 F5 F6 hcs hwf hj (show j1 < l1.length from by have q := (ix_lt hj hp (by omega) (by omega) hc2); rw [hm, List.length_map] at q; exact q) (by have q := hb; rw [hm, List.length_map] at q; omega)) N0 pd_28 e0 10 (fun T1 _ X1 N1 e1 => ?_)
    refine g_aloadN C X1 d39_10 11 rfl rfl ?_
    refine g_iloadN C X1 d39_11 12 rfl ?_
    refine g_caload C X1 e1 F4 (set_in (m := 28) hj rfl h28 (by decide)) (v := (.int (l5.getD j1 0))) (own_get hj (Nat.lt_trans h28 (by decide))) d39_12 13 ?_
    refine g_icmp_ne C X1 d39_13 20 16 (fun hc13 => absurd ((map_own_get l1 (show j1 < l1.length from by have q := (ix_lt hj hp (by omega) (by omega) hc2); rw [hm, List.length_map] at q; exact q)).trans (by rw [hm])) hc13) (fun hc13 => ?_)
    refine g_iconst C X1 d39_16 17 (v := 1) rfl ?_
    refine g_goto C X1 d39_17 21 ?_
    exact g_retN C X1 K (by simp) d39_21 (by decide) (by decide) e1 ⟨rfl, N1, rfl⟩
theorem own_r4 {x v : Int32} (h : (x &&& 3) = v) : v = 0 ∨ v = 1 ∨ v = 2 ∨ v = 3 := by
  have e0 : (x &&& 3 : Int32).toInt = x.toInt % 2 ^ 2 := Jvm.Kit.i32_mask x 3 (k := 2) (by decide) (by decide)
  rw [h] at e0
  have d0 : (0 : Int32).toInt = 0 := by decide
  have d1 : (1 : Int32).toInt = 1 := by decide
  have d2 : (2 : Int32).toInt = 2 := by decide
  have d3 : (3 : Int32).toInt = 3 := by decide
  simp only [← Int32.toInt_inj]; omega
theorem own_bk (x : Int32) : own_ch (nar .byte (nar .char (x &&& 255).toUInt32.toUInt16.toUInt32.toInt32).toInt8.toInt32) = nar .char (x &&& 255).toUInt32.toUInt16.toUInt32.toInt32 := by rw [own_narc (own_c255 x)]; exact own_ch_of (own_c255 x)
theorem own58 : own_ch 58 = nar .char 58 := by decide +kernel
theorem own110 : own_ch 110 = nar .char 110 := by decide +kernel
theorem own117 : own_ch 117 = nar .char 117 := by decide +kernel
theorem own108 : own_ch 108 = nar .char 108 := by decide +kernel
theorem nar58 : nar .char (58 : Int32) = 58 := by decide +kernel
theorem len1 (l : List Int32) (x : Int32) : Int32.ofNat l.length + (1 : Int32) = Int32.ofNat (l ++ [x]).length := by rw [List.length_append]; exact i_add _ 1
theorem fin_own {q5 bl tx fl : List Int32} {x y : Int32} (hb : bl = (q5 ++ [58]).map own_ch) (ht : tx = (((([] ++ q5) ++ [58]) ++ decI x) ++ [58]) ++ decI y) (hf : fl = ((bl ++ decI x) ++ [58]) ++ decI y) : fl = tx.map own_ch := by
  rw [hf, ht, hb]
  simp only [List.map_append, decI_own, List.map_nil, List.nil_append, List.map_cons]
  rfl

theorem tab_start {nm : String} {a0 : Array Value} {s : State} {rhs : Term} {F : Nat → Nat} (h0 : (Cond.initializedFor "java/lang/Integer" nm "[B").before a0 s = true) (h2 : (Cond.exactly (Term.static "java/lang/Integer" nm "[B") "[B").before a0 s = true) (h3 : (Cond.eq (Term.length (Term.static "java/lang/Integer" nm "[B")) (Term.int (100 : Int32))).before a0 s = true)
    (h4 : (Cond.all (Term.static "java/lang/Integer" nm "[B") (Cond.eq (Term.elem (Term.static "java/lang/Integer" nm "[B") (Term.index 0)) rhs)).before a0 s = true) (hF : ∀ r, r < 100 → rhs.eval a0 s none [r] s = some (.int (Int32.ofNat (F r)))) (hfit : ∀ r, r < 100 → fits .byte (.int (Int32.ofNat (F r))) = true) (harr : (Cond.arrayClass .byte).before a0 s = true) :
    ∃ d kd, Sta s s.heap "java/lang/Integer" nm "[B" (.ref d) ∧ Arv s s.heap d kd .byte (Int32.ofNat 100) (((List.range 100).map fun r => Int32.ofNat (F r)).map Value.int) (.int 0) := by
  obtain ⟨d, cB, D0, kB, hev, hfcB, hcellD, hkB, hstatD, hclsD, -⟩ := Cond.exactly_spec h2
  have S := Sta.start hev (Or.inl h0)
  have hl := Cond.eq_int h3 rfl
  obtain ⟨d', D, hev', harrAt, hlen⟩ := Term.length_spec hl
  cases hev.symm.trans hev'
  obtain ⟨hcellD', hknD, -, -⟩ := State.arrayAt?_spec harrAt
  cases hcellD.symm.trans hcellD'
  have h31 := Jvm.Free.SBG.length_lt hev harrAt hl
  have hsz : D0.slots.size = 100 := by
    have h2 : Int32.ofNat 100 = Int32.ofNat D0.slots.size := Value.int.inj hlen
    have := congrArg Int32.toInt h2
    rw [i_toInt _ (by omega), i_toInt _ h31] at this; omega
  have hevAll : ∀ idx, (Term.static "java/lang/Integer" nm "[B").eval a0 s none idx s = some (.ref d) := fun idx => by
    have : (Term.static "java/lang/Integer" nm "[B").eval a0 s none idx s = (Term.static "java/lang/Integer" nm "[B").eval a0 s none [] s := by simp only [Term.eval]
    rw [this]; exact hev
  obtain ⟨cB', kB', comp, hnameB, hkB', hkindB⟩ := Cond.arrayClass_spec harr
  have eBA : ("[" ++ FieldType.toString .byte) = "[B" := by decide
  rw [eBA] at hnameB
  cases hfcB.symm.trans hnameB
  cases hkB.symm.trans hkB'
  have hel : ∀ r, r < 100 → D0.slots[r]? = some (.int (Int32.ofNat (F r))) := fun r hr => by
    have h := Cond.all_elim (hevAll []) harrAt (Cond.before_iff.mp h4) r (by omega)
    have eL : (Term.elem (Term.static "java/lang/Integer" nm "[B") (.index 0)).eval a0 s none [r] s = D0.slots[r]? := Jvm.Free.SBG.elem_at (ix := .index 0) (hevAll [r]) harrAt (by omega) (by omega) rfl
    have hlt : r < D0.slots.size := by omega
    rw [Array.getElem?_eq_getElem hlt] at eL ⊢
    have hr' := hF r hr
    generalize D0.slots[r] = w at eL
    simp only [Cond.value, eL, hr'] at h
    cases w <;> simp at h
    rw [h]
  have hget : ∀ r, r < 100 → ((((List.range 100).map fun r => Int32.ofNat (F r)).map Value.int).getD r (.int 0)) = .int (Int32.ofNat (F r)) := fun r hr => by
    rw [map_getD, List.getD_eq_getElem?_getD, List.getElem?_map, List.getElem?_range hr]; rfl
  refine ⟨d, _, S, D0, ⟨hcellD, ⟨(fun q h => by rw [h] at hstatD; cases hstatD), kB, (by rw [hclsD]; exact hkB), comp, hkindB⟩, hknD⟩, rfl, by rw [hsz]; rfl, by decide, fun r hr => ?_, fun r hr => ?_⟩
  · rw [hsz] at hr; rw [hget r hr]; exact hel r hr
  · rw [hsz] at hr; rw [hget r hr]; exact hfit r hr
theorem ones_num : ∀ r, r < 100 → (48 : Int32) + Int32.ofNat r % 10 = Int32.ofNat (48 + r % 10) := by decide +kernel
theorem tens_num : ∀ r, r < 100 → (48 : Int32) + Int32.ofNat r / 10 = Int32.ofNat (48 + r / 10) := by decide +kernel
theorem ones_fit : ∀ r, r < 100 → fits .byte (.int (Int32.ofNat (48 + r % 10))) = true := by decide +kernel
theorem tens_fit : ∀ r, r < 100 → fits .byte (.int (Int32.ofNat (48 + r / 10))) = true := by decide +kernel

theorem ef_10rriin (m : MethodId) (a1 : Addr) (a2 : Addr) (a3 : Int32) (a4 : Int32) : entryFrame m #[(.ref a1), (.ref a2), (.int a3), (.int a4), .null] 6 = mkF m 0 #[rv a1, rv a2, iv a3, iv a4, nv, uu] [] := by first | (simp [entryFrame, mkF, argsToLocals, Value.category, iv, rv, jv, nv, uu, sd]; done) | rfl
theorem d10_0 : decode jdk_42_method_149_code 0 = .ok (.aload_n 0, 1) := by decide +kernel
theorem d10_1 : decode jdk_42_method_149_code 1 = .ok (.invokespecial 1, 3) := by decide +kernel
theorem d10_4 : decode jdk_42_method_149_code 4 = .ok (.iload_n 3, 1) := by decide +kernel
theorem d10_5 : decode jdk_42_method_149_code 5 = .ok (.ifCond .ne 22, 3) := by decide +kernel
theorem d10_8 : decode jdk_42_method_149_code 8 = .ok (.aload_n 0, 1) := by decide +kernel
theorem d10_9 : decode jdk_42_method_149_code 9 = .ok (.ldc 7, 2) := by decide +kernel
theorem d10_11 : decode jdk_42_method_149_code 11 = .ok (.getfield 9, 3) := by decide +kernel
theorem d10_14 : decode jdk_42_method_149_code 14 = .ok (.putfield 9, 3) := by decide +kernel
theorem d10_17 : decode jdk_42_method_149_code 17 = .ok (.aload_n 0, 1) := by decide +kernel
theorem d10_18 : decode jdk_42_method_149_code 18 = .ok (.ldc 7, 2) := by decide +kernel
theorem d10_20 : decode jdk_42_method_149_code 20 = .ok (.getfield 15, 3) := by decide +kernel
theorem d10_23 : decode jdk_42_method_149_code 23 = .ok (.putfield 15, 3) := by decide +kernel
theorem d10_26 : decode jdk_42_method_149_code 26 = .ok (.return_, 1) := by decide +kernel
def Q10_0 (Z : State) (o1 : Addr) (o2 : Addr) (kd1 : ClassId) (h0 : Heap) (n0 : Nat) (v : Option Value) (h : Heap) (L : List Loc) : Prop := ∃ (o3 : Addr) (kd3 : ClassId), v = none ∧ Fr n0 L ∧ Keep h0 h [o1] ∧ OEs Z h o1 ∧ OFv Z h o1 (.ref o3) ∧ OFc Z h o1 ∧ Arv Z h o3 kd3 .byte 0 [] (.int 0)
abbrev y10 : MethodName := (⟨"java/lang/String", "<init>", "([CIILjava/lang/Void;)V"⟩ : MethodName)
theorem rm10_0 {o1 o2 : Addr} {kd1 : ClassId} (hw : OwnW a0 Z) (Z0 : n0 ≤ h0.size) (hEL : EW Z a0 EL) (F0 : OEs Z h0 o1) (F1 : OFv Z h0 o1 .null) (F2 : OFc Z h0 o1) (F3 : Arv Z h0 o2 kd1 .char 0 [] (.int 0)) (gn_o1 : n0 ≤ o1) (ne_o1_o2 : o1 ≠ o2) : OwnMFH l Z EL y10 jdk_42_method_149_code 6 none ws ⟨1, 4, 8, 12⟩ #[(.ref o1), (.ref o2), (.int 0), (.int 0), .null] h0 (Q10_0 Z o1 o2 kd1 h0 n0) := by
  refine boH (plainFor_of_name pn_1) ?_
  intro p e s m below meth c T0 G C hnm hnamed X0 e0 hh0 hS0 H0_ R0_ K
  have N0 := Fr.nil n0
  refine Goes.to (congrArg T0.setTop (ef_10rriin m o1 o2 (0 : Int32) (0 : Int32))) ?_
  have K00 := Keep.refl h0 [o1]
  refine g_aloadN C X0 d10_0 1 rfl rfl ?_
  refine g_initO C X0 (w_19 hw) (w_20 hw) (w_21 hw) e0 rfl d10_1 4 (by decide) (W := 0) (Nat.le_of_eq rfl) (by decide) (fun T1 X1 e1 => ?_)
  refine g_iloadN C X1 d10_4 5 rfl ?_
  refine g_if_ne C X1 d10_5 27 8 (fun hc5 => absurd hc5 (by decide)) (fun hc5 => ?_)
  refine g_aloadN C X1 d10_8 9 rfl rfl ?_
  refine g_ldcCH C X1 (n := 0) (z := (0 : Int32)) (vs := []) (hw _ (List.mem_of_getElem? (i := 59) rfl)) (strAtoms hw) e1 hS0 (Nat.zero_le _) hEL (by decide) H0_ ⟨by decide, rfl⟩ (by decide) rfl d10_9 11 (by decide) (by decide) (by decide) (by decide) (fun b2 T2 h2 k2 bb2 ki2 C2 X2 e2 E2 hS2 hk2 fe2 fc2 fv2 fa2 A2 sn2 => ?_)
  have f3 := F0.ext E2
  have f4 := F1.ext E2
  have f5 := F2.ext E2
  have H_2 := A2.1
  have R_2 := R0_.trans A2
  have sf_o1_2 := A2.safe F0.lt (safe_null C.2.1.alike F1 F0)
  have K2 := K00.ext E2
  refine g_getF C2 X2 (w_22 hw) Via.refl e2 fv2 d10_11 14 (fun T7 X7 e7 => ?_)
  refine g_putF C2 X7 (w_22 hw) Via.refl e7 f4 f3 (Or.inr ⟨(w_23 hw), rfl, hnm⟩) (w_10 hw) (ty := (.array .byte)) (by decide) rfl rfl d10_14 17 (fun T8 h8 X8 e8 W8 => ?_)
  have f9 := f3.wr W8
  have f10 := f4.same W8
  have f11 := f5.other W8 (Or.inr (slot_ne (Or.inr (w_25 hw)) (Or.inr (w_23 hw)) (by decide) (t := .byte) (t' := (.array .byte)) (by decide) (by decide)))
  have f16 := fa2.other W8 (Ne.symm (sn2 _ sf_o1_2).2)
  have N8 := Fr.snoc X8 N0 gn_o1
  have hk8 := Nat.le_trans hk2 (Nat.le_of_eq W8.size.symm)
  have H_8 := H_2.wr W8 sf_o1_2
  have R_8 := R_2.trans (CHr.wr W8 sf_o1_2 H_2)
  have sf_o1_8 := Safe.wr W8 sf_o1_2 H_2 sf_o1_2
  have K8 := K2.wr W8 (Or.inl (List.mem_of_getElem? (i := 0) rfl))
  refine g_aloadN C2 X8 d10_17 18 rfl rfl ?_
  refine g_ldcCH C2 X8 (n := 0) (z := (0 : Int32)) (vs := []) (hw _ (List.mem_of_getElem? (i := 59) rfl)) (strAtoms hw) e8 hS2 hk8 hEL (by decide) H_8 ⟨by decide, rfl⟩ (by decide) rfl d10_18 20 (by decide) (by decide) (by decide) (by decide) (fun b17 T17 h17 k17 bb17 ki17 C17 X17 e17 E17 hS17 hk17 fe17 fc17 fv17 fa17 A17 sn17 => ?_)
  have f18 := f9.ext E17
  have f19 := f10.ext E17
  have f20 := f11.ext E17
  have f25 := f16.ext E17
  have H_17 := A17.1
  have R_17 := R_8.trans A17
  have sf_o1_17 := A17.safe f9.lt sf_o1_8
  have K17 := K8.ext E17
  refine g_getF C17 X17 (w_24 hw) Via.refl e17 fc17 d10_20 23 (fun T26 X26 e26 => ?_)
  refine g_putFN C17 X26 (w_24 hw) Via.refl e26 f20 f18 (Or.inr ⟨(w_25 hw), rfl, hnm⟩) (w_10 hw) (ty := .byte) (by decide) (v' := (.int 0)) (by decide) (by decide) d10_23 26 (fun T27 h27 X27 e27 W27 => ?_)
  have f28 := f18.wr W27
  have f29 := f19.other W27 (Or.inr (slot_ne (Or.inr (w_23 hw)) (Or.inr (w_25 hw)) (by decide) (t := (.array .byte)) (t' := .byte) (by decide) (by decide)))
  have f30 := f20.same W27
  have f35 := f25.other W27 (Ne.symm (sn2 _ sf_o1_2).2)
  have N27 := Fr.snoc X27 N8 gn_o1
  have hk27 := Nat.le_trans hk17 (Nat.le_of_eq W27.size.symm)
  have H_27 := H_17.wr W27 sf_o1_17
  have R_27 := R_17.trans (CHr.wr W27 sf_o1_17 H_17)
  have K27 := K17.wr W27 (Or.inl (List.mem_of_getElem? (i := 0) rfl))
  exact g_retVH C17 X27 K hS17 hk27 hEL H_27 R_27 d10_26 (by decide) (by decide) e27 ⟨bb2, ki2, rfl, N27, K27, f28, f29, f30, f35⟩
theorem ef_9rr (m : MethodId) (a1 : Addr) (a2 : Addr) : entryFrame m #[(.ref a1), (.ref a2)] 2 = mkF m 0 #[rv a1, rv a2] [] := by first | (simp [entryFrame, mkF, argsToLocals, Value.category, iv, rv, jv, nv, uu, sd]; done) | rfl
theorem d9_0 : decode jdk_42_method_3_code 0 = .ok (.aload_n 0, 1) := by decide +kernel
theorem d9_1 : decode jdk_42_method_3_code 1 = .ok (.aload_n 1, 1) := by decide +kernel
theorem d9_2 : decode jdk_42_method_3_code 2 = .ok (.iconst 0, 1) := by decide +kernel
theorem d9_3 : decode jdk_42_method_3_code 3 = .ok (.aload_n 1, 1) := by decide +kernel
theorem d9_4 : decode jdk_42_method_3_code 4 = .ok (.arraylength, 1) := by decide +kernel
theorem d9_5 : decode jdk_42_method_3_code 5 = .ok (.aconst_null, 1) := by decide +kernel
theorem d9_6 : decode jdk_42_method_3_code 6 = .ok (.invokespecial 27, 3) := by decide +kernel
theorem w_58 (hw : OwnW a0 Z) : Cond.before (.code ⟨"java/lang/String", "<init>", "([CIILjava/lang/Void;)V"⟩ jdk_42_method_149_code (6 : Nat) (Option.none : Option Jvm.ClassFile.FieldType)) a0 Z = true := wA hw 58 rfl
theorem w_56 (hw : OwnW a0 Z) : Cond.before (.methodLink "java/lang/String" (27 : Nat) ⟨"java/lang/String", "<init>", "([CIILjava/lang/Void;)V"⟩) a0 Z = true := wA hw 56 rfl
theorem pd_29 : parseMethodDescriptor "([CIILjava/lang/Void;)V" = some ⟨[(.array .char), .int, .int, (.object "java/lang/Void")], none⟩ := by decide +kernel
theorem w_57 (hw : OwnW a0 Z) : Cond.before (.instanceMethod ⟨"java/lang/String", "<init>", "([CIILjava/lang/Void;)V"⟩) a0 Z = true := wA hw 57 rfl
theorem d9_9 : decode jdk_42_method_3_code 9 = .ok (.return_, 1) := by decide +kernel
def Q9_0 (Z : State) (o1 : Addr) (o2 : Addr) (kd1 : ClassId) (h0 : Heap) (n0 : Nat) (v : Option Value) (h : Heap) (L : List Loc) : Prop := ∃ (o3 : Addr) (kd3 : ClassId), v = none ∧ Fr n0 L ∧ Keep h0 h [o1] ∧ OEs Z h o1 ∧ OFv Z h o1 (.ref o3) ∧ OFc Z h o1 ∧ Arv Z h o3 kd3 .byte 0 [] (.int 0)
abbrev y9 : MethodName := (⟨"java/lang/String", "<init>", "([C)V"⟩ : MethodName)
theorem rm9_0 {o1 o2 : Addr} {kd1 : ClassId} (hw : OwnW a0 Z) (Z0 : n0 ≤ h0.size) (hEL : EW Z a0 EL) (F0 : OEs Z h0 o1) (F1 : OFv Z h0 o1 .null) (F2 : OFc Z h0 o1) (F3 : Arv Z h0 o2 kd1 .char 0 [] (.int 0)) (gn_o1 : n0 ≤ o1) (ne_o1_o2 : o1 ≠ o2) : OwnMFH l Z EL y9 jdk_42_method_3_code 2 none ws ⟨2, 4, 8, 29⟩ #[(.ref o1), (.ref o2)] h0 (Q9_0 Z o1 o2 kd1 h0 n0) := by
  refine boH (plainFor_of_name pn_1) ?_
  intro p e s m below meth c T0 G C hnm hnamed X0 e0 hh0 hS0 H0_ R0_ K
  have N0 := Fr.nil n0
  refine Goes.to (congrArg T0.setTop (ef_9rr m o1 o2)) ?_
  have K00 := Keep.refl h0 [o1]
  refine g_aloadN C X0 d9_0 1 rfl rfl ?_
  refine g_aloadN C X0 d9_1 2 rfl rfl ?_
  refine g_iconst C X0 d9_2 3 (v := 0) rfl ?_
  refine g_aloadN C X0 d9_3 4 rfl rfl ?_
  refine g_arraylength C X0 e0 F3 d9_4 5 ?_
  refine g_aconstNull C X0 d9_5 6 ?_
  refine g_callIH C X0 hS0 (Nat.zero_le _) hEL H0_ rfl (w_56 hw) (w_57 hw) (w_2 hw) (w_58 hw) d9_6 [(.ref o2), (.int 0), (.int 0), .null] [] 0 (rm10_0 hw Z0 hEL F0 F1 F2 F3 gn_o1 ne_o1_o2) pd_29 e0 9 (fun u1 T1 L1 C1 X1 hQ1 hS1 A1 => ?_)
  obtain ⟨o31, kd31, rfl, Nq1, Kq1, q1_0, q1_1, q1_2, q1_3⟩ := hQ1
  have N1 := Fr.app N0 Nq1
  have H_1 := A1.1
  have R_1 := R0_.trans A1
  have K1 := K00.trans Kq1 (allS (Or.inl (List.mem_of_getElem? (i := 0) rfl)) all0)
  refine ret0 ?_
  exact g_retVH C1 X1 K hS1 (Nat.le_refl _) hEL H_1 R_1 d9_9 (by decide) (by decide) rfl ⟨o31, kd31, rfl, N1, K1, q1_0, q1_1, q1_2, q1_3⟩
theorem ef_46ririi (m : MethodId) (a1 : Addr) (a2 : Int32) (a3 : Addr) (a4 : Int32) (a5 : Int32) : entryFrame m #[(.ref a1), (.int a2), (.ref a3), (.int a4), (.int a5)] 7 = mkF m 0 #[rv a1, iv a2, rv a3, iv a4, iv a5, uu, uu] [] := by first | (simp [entryFrame, mkF, argsToLocals, Value.category, iv, rv, jv, nv, uu, sd]; done) | rfl
theorem d46_0 : decode jdk_52_method_21_code 0 = .ok (.iconst 0, 1) := by decide +kernel
theorem d46_1 : decode jdk_52_method_21_code 1 = .ok (.istore 5, 2) := by decide +kernel
theorem d46_3 : decode jdk_52_method_21_code 3 = .ok (.iload 5, 2) := by decide +kernel
theorem d46_5 : decode jdk_52_method_21_code 5 = .ok (.iload 4, 2) := by decide +kernel
theorem d46_7 : decode jdk_52_method_21_code 7 = .ok (.if_icmp .ge 37, 3) := by decide +kernel
theorem d46_10 : decode jdk_52_method_21_code 10 = .ok (.aload_n 0, 1) := by decide +kernel
theorem d46_11 : decode jdk_52_method_21_code 11 = .ok (.iload_n 1, 1) := by decide +kernel
theorem d46_12 : decode jdk_52_method_21_code 12 = .ok (.caload, 1) := by decide +kernel
theorem d46_13 : decode jdk_52_method_21_code 13 = .ok (.istore 6, 2) := by decide +kernel
theorem d46_15 : decode jdk_52_method_21_code 15 = .ok (.iload 6, 2) := by decide +kernel
theorem d46_17 : decode jdk_52_method_21_code 17 = .ok (.sipush 255, 3) := by decide +kernel
theorem d46_20 : decode jdk_52_method_21_code 20 = .ok (.if_icmp .le 6, 3) := by decide +kernel
theorem d46_26 : decode jdk_52_method_21_code 26 = .ok (.aload_n 2, 1) := by decide +kernel
theorem d46_27 : decode jdk_52_method_21_code 27 = .ok (.iload_n 3, 1) := by decide +kernel
theorem d46_28 : decode jdk_52_method_21_code 28 = .ok (.iload 6, 2) := by decide +kernel
theorem d46_30 : decode jdk_52_method_21_code 30 = .ok (.i2b, 1) := by decide +kernel
theorem d46_31 : decode jdk_52_method_21_code 31 = .ok (.bastore, 1) := by decide +kernel
theorem d46_32 : decode jdk_52_method_21_code 32 = .ok (.iinc 1 1, 3) := by decide +kernel
theorem d46_35 : decode jdk_52_method_21_code 35 = .ok (.iinc 3 1, 3) := by decide +kernel
theorem d46_38 : decode jdk_52_method_21_code 38 = .ok (.iinc 5 1, 3) := by decide +kernel
theorem d46_41 : decode jdk_52_method_21_code 41 = .ok (.goto (-38), 3) := by decide +kernel
theorem d46_44 : decode jdk_52_method_21_code 44 = .ok (.iload 4, 2) := by decide +kernel
theorem d46_46 : decode jdk_52_method_21_code 46 = .ok (.ireturn, 1) := by decide +kernel
def Q46_1 (Z : State) (o1 : Addr) (o2 : Addr) (kd1 : ClassId) (kd2 : ClassId) (c1 : Int32) (h0 : Heap) (n0 : Nat) (v : Option Value) (h : Heap) (L : List Loc) : Prop := v = some (.int 1) ∧ Fr n0 L ∧ Keep h0 h [o2] ∧ Arv Z h o2 kd2 .byte 1 [(.int (nar .byte c1.toInt8.toInt32))] (.int 0)
abbrev y46 : MethodName := (⟨"java/lang/StringUTF16", "compress", "([CI[BII)I"⟩ : MethodName)
theorem pn_45 : plainName "java/lang/StringUTF16" = true := by first | (simp [plainName, overriddenIn]; done) | decide +kernel
theorem rm46_1 {o1 o2 : Addr} {kd1 kd2 : ClassId} {c1 : Int32} (hw : OwnW a0 Z) (Z0 : n0 ≤ h0.size) (F0 : Arv Z h0 o1 kd1 .char 1 [(.int c1)] (.int 0)) (F1 : Arv Z h0 o2 kd2 .byte 1 [(.int 0)] (.int 0)) (gn_o2 : n0 ≤ o2) (la1 : ¬ (255 : Int32) < c1) (ne_o1_o2 : o1 ≠ o2) : OwnMF l Z y46 jdk_52_method_21_code 7 (some .int) ws ⟨0, 0, 0, 0⟩ #[(.ref o1), (.int 0), (.ref o2), (.int 0), (.int 1)] h0 (Q46_1 Z o1 o2 kd1 kd2 c1 h0 n0) := by
  refine bo (plainFor_of_name pn_45) ?_
  intro p e s m below meth c T0 G C hnm hnamed X0 e0 K
  have N0 := Fr.nil n0
  refine Goes.to (congrArg T0.setTop (ef_46ririi m o1 (0 : Int32) o2 (0 : Int32) (1 : Int32))) ?_
  have K00 := Keep.refl h0 [o2]
  refine g_iconst C X0 d46_0 1 (v := 0) rfl ?_
  refine g_istore C X0 d46_1 3 (w := 0) rfl (ls' := #[rv o1, iv 0, rv o2, iv 0, iv 1, iv 0, uu]) rfl ?_
  refine g_iload C X0 d46_3 5 rfl ?_
  refine g_iload C X0 d46_5 7 rfl ?_
  refine g_icmp_ge C X0 d46_7 44 10 (fun hc7 => absurd hc7 (by decide)) (fun hc7 => ?_)
  refine g_aloadN C X0 d46_10 11 rfl rfl ?_
  refine g_iloadN C X0 d46_11 12 rfl ?_
  refine g_caload C X0 e0 F0 (by decide) (v := (.int c1)) rfl d46_12 13 ?_
  refine g_istore C X0 d46_13 15 (w := c1) rfl (ls' := #[rv o1, iv 0, rv o2, iv 0, iv 1, iv 0, iv c1]) rfl ?_
  refine g_iload C X0 d46_15 17 rfl ?_
  refine g_sipush C X0 d46_17 20 (v := 255) rfl ?_
  refine g_icmp_le C X0 d46_20 26 23 (fun hc20 => ?_) (fun hc20 => absurd hc20 la1)
  refine g_aloadN C X0 d46_26 27 rfl rfl ?_
  refine g_iloadN C X0 d46_27 28 rfl ?_
  refine g_iload C X0 d46_28 30 rfl ?_
  refine g_i2b C X0 d46_30 31 ?_
  refine g_bastore C X0 (i := 0) e0 F1 (by decide) rfl (Nat.le_of_ble_eq_true rfl) d46_31 32 (fun T1 h1 X1 e1 W1 A1 => ?_)
  have f3 : Arv Z h1 o2 kd2 .byte 1 [(.int (nar .byte c1.toInt8.toInt32))] (.int 0) := A1
  have N1 := Fr.snoc X1 N0 gn_o2
  have K1 := K00.wr W1 (Or.inl (List.mem_of_getElem? (i := 0) rfl))
  refine g_iinc C X1 d46_32 35 rfl (w := 1) rfl (ls' := #[rv o1, iv 1, rv o2, iv 0, iv 1, iv 0, iv c1]) rfl ?_
  refine g_iinc C X1 d46_35 38 rfl (w := 1) rfl (ls' := #[rv o1, iv 1, rv o2, iv 1, iv 1, iv 0, iv c1]) rfl ?_
  refine g_iinc C X1 d46_38 41 rfl (w := 1) rfl (ls' := #[rv o1, iv 1, rv o2, iv 1, iv 1, iv 1, iv c1]) rfl ?_
  refine g_goto C X1 d46_41 3 ?_
  refine g_iload C X1 d46_3 5 rfl ?_
  refine g_iload C X1 d46_5 7 rfl ?_
  refine g_icmp_ge C X1 d46_7 44 10 (fun hc7 => ?_) (fun hc7 => absurd hc7 (by decide))
  refine g_iload C X1 d46_44 46 rfl ?_
  exact g_retI C X1 K d46_46 (by decide) (by decide) e1 ⟨rfl, N1, K1, f3⟩
theorem ef_45rii (m : MethodId) (a1 : Addr) (a2 : Int32) (a3 : Int32) : entryFrame m #[(.ref a1), (.int a2), (.int a3)] 6 = mkF m 0 #[rv a1, iv a2, iv a3, uu, uu, uu] [] := by first | (simp [entryFrame, mkF, argsToLocals, Value.category, iv, rv, jv, nv, uu, sd]; done) | rfl
theorem d45_0 : decode jdk_52_method_16_code 0 = .ok (.iload_n 2, 1) := by decide +kernel
theorem d45_1 : decode jdk_52_method_16_code 1 = .ok (.newarray .byte, 2) := by decide +kernel
theorem d45_3 : decode jdk_52_method_16_code 3 = .ok (.astore_n 3, 1) := by decide +kernel
theorem d45_4 : decode jdk_52_method_16_code 4 = .ok (.aload_n 0, 1) := by decide +kernel
theorem d45_5 : decode jdk_52_method_16_code 5 = .ok (.iload_n 1, 1) := by decide +kernel
theorem d45_6 : decode jdk_52_method_16_code 6 = .ok (.aload_n 3, 1) := by decide +kernel
theorem d45_7 : decode jdk_52_method_16_code 7 = .ok (.iconst 0, 1) := by decide +kernel
theorem d45_8 : decode jdk_52_method_16_code 8 = .ok (.iload_n 2, 1) := by decide +kernel
theorem d45_9 : decode jdk_52_method_16_code 9 = .ok (.invokestatic 115, 3) := by decide +kernel
theorem w_242 (hw : OwnW a0 Z) : Cond.before (.code ⟨"java/lang/StringUTF16", "compress", "([CI[BII)I"⟩ jdk_52_method_21_code (7 : Nat) (Option.some Jvm.ClassFile.FieldType.int)) a0 Z = true := wA hw 242 rfl
theorem w_238 (hw : OwnW a0 Z) : Cond.before (.initialized "java/lang/StringUTF16") a0 Z = true := wA hw 238 rfl
theorem w_240 (hw : OwnW a0 Z) : Cond.before (.methodLink "java/lang/StringUTF16" (115 : Nat) ⟨"java/lang/StringUTF16", "compress", "([CI[BII)I"⟩) a0 Z = true := wA hw 240 rfl
theorem pd_30 : parseMethodDescriptor "([CI[BII)I" = some ⟨[(.array .char), .int, (.array .byte), .int, .int], some .int⟩ := by decide +kernel
theorem w_241 (hw : OwnW a0 Z) : Cond.before (.static ⟨"java/lang/StringUTF16", "compress", "([CI[BII)I"⟩) a0 Z = true := wA hw 241 rfl
theorem d45_12 : decode jdk_52_method_16_code 12 = .ok (.istore 4, 2) := by decide +kernel
theorem d45_14 : decode jdk_52_method_16_code 14 = .ok (.iload 4, 2) := by decide +kernel
theorem d45_16 : decode jdk_52_method_16_code 16 = .ok (.iload_n 2, 1) := by decide +kernel
theorem d45_17 : decode jdk_52_method_16_code 17 = .ok (.if_icmp .eq 40, 3) := by decide +kernel
theorem d45_57 : decode jdk_52_method_16_code 57 = .ok (.aload_n 3, 1) := by decide +kernel
theorem d45_58 : decode jdk_52_method_16_code 58 = .ok (.areturn, 1) := by decide +kernel
def Q45_1 (Z : State) (o1 : Addr) (kd1 : ClassId) (c1 : Int32) (h0 : Heap) (n0 : Nat) (v : Option Value) (h : Heap) (L : List Loc) : Prop := ∃ (o3 : Addr) (kd3 : ClassId), v = some (.ref o3) ∧ Fr n0 L ∧ h0.size ≤ o3 ∧ Keep h0 h [] ∧ Arv Z h o3 kd3 .byte 1 [(.int (nar .byte c1.toInt8.toInt32))] (.int 0)
abbrev y45 : MethodName := (⟨"java/lang/StringUTF16", "compress", "([CII)[B"⟩ : MethodName)
theorem rm45_1 {o1 : Addr} {kd1 : ClassId} {c1 : Int32} (hw : OwnW a0 Z) (Z0 : n0 ≤ h0.size) (F0 : Arv Z h0 o1 kd1 .char 1 [(.int c1)] (.int 0)) (la1 : ¬ (255 : Int32) < c1) : OwnMF l Z y45 jdk_52_method_16_code 6 (some (.array .byte)) ws ⟨1, 1, 1, 18⟩ #[(.ref o1), (.int 0), (.int 1)] h0 (Q45_1 Z o1 kd1 c1 h0 n0) := by
  refine bo (plainFor_of_name pn_45) ?_
  intro p e s m below meth c T0 G C hnm hnamed X0 e0 K
  have N0 := Fr.nil n0
  refine Goes.to (congrArg T0.setTop (ef_45rii m o1 (0 : Int32) (1 : Int32))) ?_
  have K00 := Keep.refl h0 []
  refine g_iloadN C X0 d45_0 1 rfl ?_
  refine g_newA (aty := .byte) (n := (1 : Int32)) C X0 (cap := 1) (w_14 hw) e0 d45_1 3 (by decide) (by decide) (by decide) (by decide) (by decide) (fun T1 h1 b1 ki1 X1 e1 g1 E1 A1 => ?_)
  have n2 : o1 ≠ b1 := Nat.ne_of_lt (Nat.lt_of_lt_of_eq F0.lt g1.symm)
  have f3 := F0.ext E1
  have gn_b1 : n0 ≤ b1 := Nat.le_trans Z0 (Nat.le_of_eq g1.symm)
  have Z1 := Nat.le_trans Z0 E1.1
  have sz_b1 : h0.size ≤ b1 := Nat.le_trans K00.1 (Nat.le_of_eq g1.symm)
  have K1 := K00.ext E1
  have f4 : Arv Z h1 b1 ki1 .byte 1 [(.int 0)] (.int 0) := A1.pad (pad_rep [] (.int 0) 1)
  refine g_astoreN C X1 d45_3 4 rfl (ls' := #[rv o1, iv 0, iv 1, rv b1, uu, uu]) rfl ?_
  refine g_aloadN C X1 d45_4 5 rfl rfl ?_
  refine g_iloadN C X1 d45_5 6 rfl ?_
  refine g_aloadN C X1 d45_6 7 rfl rfl ?_
  refine g_iconst C X1 d45_7 8 (v := 0) rfl ?_
  refine g_iloadN C X1 d45_8 9 rfl ?_
  refine g_callS C X1 (w_240 hw) (w_241 hw) (w_238 hw) (w_242 hw) d45_9 [(.ref o1), (.int 0), (.ref b1), (.int 0), (.int 1)] [] 0 (rm46_1 hw Z1 f3 f4 gn_b1 la1 n2) pd_30 e1 12 (fun u5 T5 L5 X5 hQ5 => ?_)
  obtain ⟨rfl, Nq5, Kq5, q5_0⟩ := hQ5
  have N5 := Fr.app N0 Nq5
  have K5 := K1.trans Kq5 (allS (Or.inr sz_b1) all0)
  refine ret1 ?_
  refine g_istore C X5 d45_12 14 (w := 1) rfl (ls' := #[rv o1, iv 0, iv 1, rv b1, iv 1, uu]) rfl ?_
  refine g_iload C X5 d45_14 16 rfl ?_
  refine g_iloadN C X5 d45_16 17 rfl ?_
  refine g_icmp_eq C X5 d45_17 57 20 (fun hc17 => ?_) (fun hc17 => absurd hc17 (by decide))
  refine g_aloadN C X5 d45_57 58 rfl rfl ?_
  exact g_retA C X5 K rfl rfl rfl d45_58 (by decide) (by decide) rfl ⟨b1, ki1, rfl, N5, sz_b1, K5, q5_0⟩
theorem ef_47ri (m : MethodId) (a1 : Addr) (a2 : Int32) : entryFrame m #[(.ref a1), (.int a2)] 2 = mkF m 0 #[rv a1, iv a2] [] := by first | (simp [entryFrame, mkF, argsToLocals, Value.category, iv, rv, jv, nv, uu, sd]; done) | rfl
theorem d47_0 : decode jdk_52_method_15_code 0 = .ok (.iload_n 1, 1) := by decide +kernel
theorem d47_1 : decode jdk_52_method_15_code 1 = .ok (.aload_n 0, 1) := by decide +kernel
theorem d47_2 : decode jdk_52_method_15_code 2 = .ok (.arraylength, 1) := by decide +kernel
theorem d47_3 : decode jdk_52_method_15_code 3 = .ok (.isub, 1) := by decide +kernel
theorem d47_4 : decode jdk_52_method_15_code 4 = .ok (.bipush 31, 2) := by decide +kernel
theorem d47_6 : decode jdk_52_method_15_code 6 = .ok (.iushr, 1) := by decide +kernel
theorem d47_7 : decode jdk_52_method_15_code 7 = .ok (.i2b, 1) := by decide +kernel
theorem d47_8 : decode jdk_52_method_15_code 8 = .ok (.ireturn, 1) := by decide +kernel
abbrev y47 : MethodName := (⟨"java/lang/StringUTF16", "coderFromArrayLen", "([BI)B"⟩ : MethodName)
theorem rm47_1 {o1 : Addr} {kd1 : ClassId} {c1 : Int32} (hw : OwnW a0 Z) (Z0 : n0 ≤ h0.size) (F0 : Arv Z h0 o1 kd1 .byte 1 [(.int c1)] (.int 0)) : OwnMF l Z y47 jdk_52_method_15_code 2 (some .byte) ws ⟨0, 0, 0, 0⟩ #[(.ref o1), (.int 1)] h0 (OwnQ (some (.int 0)) h0 n0) := by
  refine bo (plainFor_of_name pn_45) ?_
  intro p e s m below meth c T0 G C hnm hnamed X0 e0 K
  have N0 := Fr.nil n0
  refine Goes.to (congrArg T0.setTop (ef_47ri m o1 (1 : Int32))) ?_
  refine g_iloadN C X0 d47_0 1 rfl ?_
  refine g_aloadN C X0 d47_1 2 rfl rfl ?_
  refine g_arraylength C X0 e0 F0 d47_2 3 ?_
  refine g_isub C X0 d47_3 4 ?_
  rw [show (1 : Int32) - 1 = 0 from by decide]
  refine g_bipush C X0 d47_4 6 (v := 31) rfl ?_
  refine g_iushr C X0 d47_6 7 ?_
  refine g_i2b C X0 d47_7 8 ?_
  exact g_retN C X0 K (by simp) d47_8 (by decide) (by decide) e0 ⟨(by decide), N0, rfl⟩
theorem d10_27 : decode jdk_42_method_149_code 27 = .ok (.getstatic 38, 3) := by decide +kernel
theorem d10_30 : decode jdk_42_method_149_code 30 = .ok (.ifCond .eq 28, 3) := by decide +kernel
theorem d10_33 : decode jdk_42_method_149_code 33 = .ok (.aload_n 1, 1) := by decide +kernel
theorem d10_34 : decode jdk_42_method_149_code 34 = .ok (.iload_n 2, 1) := by decide +kernel
theorem d10_35 : decode jdk_42_method_149_code 35 = .ok (.iload_n 3, 1) := by decide +kernel
theorem d10_36 : decode jdk_42_method_149_code 36 = .ok (.invokestatic 177, 3) := by decide +kernel
theorem w_239 (hw : OwnW a0 Z) : Cond.before (.code ⟨"java/lang/StringUTF16", "compress", "([CII)[B"⟩ jdk_52_method_16_code (6 : Nat) (Option.some (Jvm.ClassFile.FieldType.array Jvm.ClassFile.FieldType.byte))) a0 Z = true := wA hw 239 rfl
theorem w_236 (hw : OwnW a0 Z) : Cond.before (.methodLink "java/lang/String" (177 : Nat) ⟨"java/lang/StringUTF16", "compress", "([CII)[B"⟩) a0 Z = true := wA hw 236 rfl
theorem pd_31 : parseMethodDescriptor "([CII)[B" = some ⟨[(.array .char), .int, .int], some (.array .byte)⟩ := by decide +kernel
theorem w_237 (hw : OwnW a0 Z) : Cond.before (.static ⟨"java/lang/StringUTF16", "compress", "([CII)[B"⟩) a0 Z = true := wA hw 237 rfl
theorem d10_39 : decode jdk_42_method_149_code 39 = .ok (.astore 5, 2) := by decide +kernel
theorem d10_41 : decode jdk_42_method_149_code 41 = .ok (.aload_n 0, 1) := by decide +kernel
theorem d10_42 : decode jdk_42_method_149_code 42 = .ok (.aload 5, 2) := by decide +kernel
theorem d10_44 : decode jdk_42_method_149_code 44 = .ok (.iload_n 3, 1) := by decide +kernel
theorem d10_45 : decode jdk_42_method_149_code 45 = .ok (.invokestatic 47, 3) := by decide +kernel
theorem w_245 (hw : OwnW a0 Z) : Cond.before (.code ⟨"java/lang/StringUTF16", "coderFromArrayLen", "([BI)B"⟩ jdk_52_method_15_code (2 : Nat) (Option.some Jvm.ClassFile.FieldType.byte)) a0 Z = true := wA hw 245 rfl
theorem w_243 (hw : OwnW a0 Z) : Cond.before (.methodLink "java/lang/String" (47 : Nat) ⟨"java/lang/StringUTF16", "coderFromArrayLen", "([BI)B"⟩) a0 Z = true := wA hw 243 rfl
theorem pd_32 : parseMethodDescriptor "([BI)B" = some ⟨[(.array .byte), .int], some .byte⟩ := by decide +kernel
theorem w_244 (hw : OwnW a0 Z) : Cond.before (.static ⟨"java/lang/StringUTF16", "coderFromArrayLen", "([BI)B"⟩) a0 Z = true := wA hw 244 rfl
theorem b_19 (hw : OwnW a0 Z) : CallS "java/lang/String" 47 (⟨"java/lang/StringUTF16", "coderFromArrayLen", "([BI)B"⟩ : MethodName) jdk_52_method_15_code (2 : Nat) (Option.some Jvm.ClassFile.FieldType.byte) a0 Z := ⟨(w_243 hw), (w_244 hw), (w_238 hw), (w_245 hw)⟩
theorem d10_48 : decode jdk_42_method_149_code 48 = .ok (.putfield 15, 3) := by decide +kernel
theorem d10_51 : decode jdk_42_method_149_code 51 = .ok (.aload_n 0, 1) := by decide +kernel
theorem d10_52 : decode jdk_42_method_149_code 52 = .ok (.aload 5, 2) := by decide +kernel
theorem d10_54 : decode jdk_42_method_149_code 54 = .ok (.putfield 9, 3) := by decide +kernel
theorem d10_57 : decode jdk_42_method_149_code 57 = .ok (.return_, 1) := by decide +kernel
def Q10_1 (Z : State) (o1 : Addr) (o2 : Addr) (kd1 : ClassId) (c1 : Int32) (cs1 : Int32) (h0 : Heap) (n0 : Nat) (v : Option Value) (h : Heap) (L : List Loc) : Prop := ∃ (o3 : Addr) (kd3 : ClassId), v = none ∧ Fr n0 L ∧ h0.size ≤ o3 ∧ Keep h0 h [o1] ∧ OEs Z h o1 ∧ OFv Z h o1 (.ref o3) ∧ OFc Z h o1 ∧ Arv Z h o3 kd3 .byte 1 [(.int (nar .byte c1.toInt8.toInt32))] (.int 0)
theorem rm10_1 {o1 o2 : Addr} {kd1 : ClassId} {c1 cs1 : Int32} (hw : OwnW a0 Z) (Z0 : n0 ≤ h0.size) (F0 : OEs Z h0 o1) (F1 : OFv Z h0 o1 .null) (F2 : OFc Z h0 o1) (F3 : Arv Z h0 o2 kd1 .char 1 [(.int c1)] (.int 0)) (F4 : OSc Z h0 cs1) (gn_o1 : n0 ≤ o1) (la1 : ¬ (255 : Int32) < c1) (hcs : ¬ cs1 = (0 : Int32)) (ne_o1_o2 : o1 ≠ o2) : OwnMF l Z y10 jdk_42_method_149_code 6 none ws ⟨2, 1, 1, 35⟩ #[(.ref o1), (.ref o2), (.int 0), (.int 1), .null] h0 (Q10_1 Z o1 o2 kd1 c1 cs1 h0 n0) := by
  refine bo (plainFor_of_name pn_1) ?_
  intro p e s m below meth c T0 G C hnm hnamed X0 e0 K
  have N0 := Fr.nil n0
  refine Goes.to (congrArg T0.setTop (ef_10rriin m o1 o2 (0 : Int32) (1 : Int32))) ?_
  have K00 := Keep.refl h0 [o1]
  refine g_aloadN C X0 d10_0 1 rfl rfl ?_
  refine g_initO C X0 (w_19 hw) (w_20 hw) (w_21 hw) e0 rfl d10_1 4 (by decide) (W := 0) (Nat.le_of_eq rfl) (by decide) (fun T1 X1 e1 => ?_)
  refine g_iloadN C X1 d10_4 5 rfl ?_
  refine g_if_ne C X1 d10_5 27 8 (fun hc5 => ?_) (fun hc5 => absurd hc5 (by decide))
  refine g_getS C X1 (w_4 hw) Via.refl e1 F4 d10_27 30 (fun T2 X2 e2 => ?_)
  refine g_if_eq C X2 d10_30 58 33 (fun hc30 => absurd hc30 hcs) (fun hc30 => ?_)
  refine g_aloadN C X2 d10_33 34 rfl rfl ?_
  refine g_iloadN C X2 d10_34 35 rfl ?_
  refine g_iloadN C X2 d10_35 36 rfl ?_
  refine g_callS C X2 (w_236 hw) (w_237 hw) (w_238 hw) (w_239 hw) d10_36 [(.ref o2), (.int 0), (.int 1)] [] 0 (rm45_1 hw Z0 F3 la1) pd_31 e2 39 (fun u3 T3 L3 X3 hQ3 => ?_)
  obtain ⟨o33, kd33, rfl, Nq3, szo33, Kq3, q3_0⟩ := hQ3
  have N3 := Fr.app N0 Nq3
  have n4 : o1 ≠ o33 := Nat.ne_of_lt (Nat.lt_of_lt_of_le F0.lt szo33)
  have f6 := F0.keep Kq3
  have f7 := F1.keep Kq3 nin0
  have f8 := F2.keep Kq3 nin0
  have Z3 := Nat.le_trans Z0 Kq3.1
  have sz_o33 : h0.size ≤ o33 := Nat.le_trans K00.1 szo33
  have K3 := K00.trans Kq3 all0
  refine ret1 ?_
  refine g_astore C X3 d10_39 41 rfl (ls' := #[rv o1, rv o2, iv 0, iv 1, nv, rv o33]) rfl ?_
  refine g_aloadN C X3 d10_41 42 rfl rfl ?_
  refine g_aload C X3 d10_42 44 rfl rfl ?_
  refine g_iloadN C X3 d10_44 45 rfl ?_
  refine g_callS0 C X3 (b_19 hw) d10_45 [(.ref o33), (.int 1)] [(.ref o1)] 1 (rm47_1 hw Z3 q3_0) N3 pd_32 rfl 48 (fun T11 _ X11 N11 e11 => ?_)
  refine g_putFN C X11 (w_24 hw) Via.refl e11 f8 f6 (Or.inr ⟨(w_25 hw), rfl, hnm⟩) (w_10 hw) (ty := .byte) (by decide) (v' := (.int 0)) (by decide) (by decide) d10_48 51 (fun T12 h12 X12 e12 W12 => ?_)
  have f13 := f6.wr W12
  have f14 := f7.other W12 (Or.inr (slot_ne (Or.inr (w_23 hw)) (Or.inr (w_25 hw)) (by decide) (t := (.array .byte)) (t' := .byte) (by decide) (by decide)))
  have f15 := f8.same W12
  have f18 := q3_0.other W12 (Ne.symm n4)
  have N12 := Fr.snoc X12 N11 gn_o1
  have K12 := K3.wr W12 (Or.inl (List.mem_of_getElem? (i := 0) rfl))
  refine g_aloadN C X12 d10_51 52 rfl rfl ?_
  refine g_aload C X12 d10_52 54 rfl rfl ?_
  refine g_putF C X12 (w_22 hw) Via.refl e12 f14 f13 (Or.inr ⟨(w_23 hw), rfl, hnm⟩) (w_10 hw) (ty := (.array .byte)) (by decide) rfl rfl d10_54 57 (fun T19 h19 X19 e19 W19 => ?_)
  have f20 := f13.wr W19
  have f21 := f14.same W19
  have f22 := f15.other W19 (Or.inr (slot_ne (Or.inr (w_25 hw)) (Or.inr (w_23 hw)) (by decide) (t := .byte) (t' := (.array .byte)) (by decide) (by decide)))
  have f25 := f18.other W19 (Ne.symm n4)
  have N19 := Fr.snoc X19 N12 gn_o1
  have K19 := K12.wr W19 (Or.inl (List.mem_of_getElem? (i := 0) rfl))
  exact g_retV C X19 K d10_57 (by decide) (by decide) e19 ⟨o33, kd33, rfl, N19, sz_o33, K19, f20, f21, f22, f25⟩
def Q9_1 (Z : State) (o1 : Addr) (o2 : Addr) (kd1 : ClassId) (c1 : Int32) (cs1 : Int32) (h0 : Heap) (n0 : Nat) (v : Option Value) (h : Heap) (L : List Loc) : Prop := ∃ (o3 : Addr) (kd3 : ClassId), v = none ∧ Fr n0 L ∧ h0.size ≤ o3 ∧ Keep h0 h [o1] ∧ OEs Z h o1 ∧ OFv Z h o1 (.ref o3) ∧ OFc Z h o1 ∧ Arv Z h o3 kd3 .byte 1 [(.int (nar .byte c1.toInt8.toInt32))] (.int 0)
theorem rm9_1 {o1 o2 : Addr} {kd1 : ClassId} {c1 cs1 : Int32} (hw : OwnW a0 Z) (Z0 : n0 ≤ h0.size) (F0 : OEs Z h0 o1) (F1 : OFv Z h0 o1 .null) (F2 : OFc Z h0 o1) (F3 : Arv Z h0 o2 kd1 .char 1 [(.int c1)] (.int 0)) (F4 : OSc Z h0 cs1) (gn_o1 : n0 ≤ o1) (la1 : ¬ (255 : Int32) < c1) (hcs : ¬ cs1 = (0 : Int32)) (ne_o1_o2 : o1 ≠ o2) : OwnMF l Z y9 jdk_42_method_3_code 2 none ws ⟨3, 1, 1, 52⟩ #[(.ref o1), (.ref o2)] h0 (Q9_1 Z o1 o2 kd1 c1 cs1 h0 n0) := by
  refine bo (plainFor_of_name pn_1) ?_
  intro p e s m below meth c T0 G C hnm hnamed X0 e0 K
  have N0 := Fr.nil n0
  refine Goes.to (congrArg T0.setTop (ef_9rr m o1 o2)) ?_
  have K00 := Keep.refl h0 [o1]
  refine g_aloadN C X0 d9_0 1 rfl rfl ?_
  refine g_aloadN C X0 d9_1 2 rfl rfl ?_
  refine g_iconst C X0 d9_2 3 (v := 0) rfl ?_
  refine g_aloadN C X0 d9_3 4 rfl rfl ?_
  refine g_arraylength C X0 e0 F3 d9_4 5 ?_
  refine g_aconstNull C X0 d9_5 6 ?_
  refine g_callI C X0 rfl (w_56 hw) (w_57 hw) (w_2 hw) (w_58 hw) d9_6 [(.ref o2), (.int 0), (.int 1), .null] [] 0 (rm10_1 hw Z0 F0 F1 F2 F3 F4 gn_o1 la1 hcs ne_o1_o2) pd_29 e0 9 (fun u1 T1 L1 X1 hQ1 => ?_)
  obtain ⟨o31, kd31, rfl, Nq1, szo31, Kq1, q1_0, q1_1, q1_2, q1_3⟩ := hQ1
  have N1 := Fr.app N0 Nq1
  have sz_o31 : h0.size ≤ o31 := Nat.le_trans K00.1 szo31
  have K1 := K00.trans Kq1 (allS (Or.inl (List.mem_of_getElem? (i := 0) rfl)) all0)
  refine ret0 ?_
  exact g_retV C X1 K d9_9 (by decide) (by decide) rfl ⟨o31, kd31, rfl, N1, sz_o31, K1, q1_0, q1_1, q1_2, q1_3⟩
def Q46_2 (Z : State) (o1 : Addr) (o2 : Addr) (kd1 : ClassId) (kd2 : ClassId) (c1 : Int32) (c2 : Int32) (h0 : Heap) (n0 : Nat) (v : Option Value) (h : Heap) (L : List Loc) : Prop := v = some (.int 2) ∧ Fr n0 L ∧ Keep h0 h [o2] ∧ Arv Z h o2 kd2 .byte 2 [(.int (nar .byte c1.toInt8.toInt32)), (.int (nar .byte c2.toInt8.toInt32))] (.int 0)
theorem rm46_2 {o1 o2 : Addr} {kd1 kd2 : ClassId} {c1 c2 : Int32} (hw : OwnW a0 Z) (Z0 : n0 ≤ h0.size) (F0 : Arv Z h0 o1 kd1 .char 2 [(.int c1), (.int c2)] (.int 0)) (F1 : Arv Z h0 o2 kd2 .byte 2 [(.int 0), (.int 0)] (.int 0)) (gn_o2 : n0 ≤ o2) (la1 : ¬ (255 : Int32) < c1) (la2 : ¬ (255 : Int32) < c2) (ne_o1_o2 : o1 ≠ o2) : OwnMF l Z y46 jdk_52_method_21_code 7 (some .int) ws ⟨0, 0, 0, 0⟩ #[(.ref o1), (.int 0), (.ref o2), (.int 0), (.int 2)] h0 (Q46_2 Z o1 o2 kd1 kd2 c1 c2 h0 n0) := by
  refine bo (plainFor_of_name pn_45) ?_
  intro p e s m below meth c T0 G C hnm hnamed X0 e0 K
  have N0 := Fr.nil n0
  refine Goes.to (congrArg T0.setTop (ef_46ririi m o1 (0 : Int32) o2 (0 : Int32) (2 : Int32))) ?_
  have K00 := Keep.refl h0 [o2]
  refine g_iconst C X0 d46_0 1 (v := 0) rfl ?_
  refine g_istore C X0 d46_1 3 (w := 0) rfl (ls' := #[rv o1, iv 0, rv o2, iv 0, iv 2, iv 0, uu]) rfl ?_
  refine g_iload C X0 d46_3 5 rfl ?_
  refine g_iload C X0 d46_5 7 rfl ?_
  refine g_icmp_ge C X0 d46_7 44 10 (fun hc7 => absurd hc7 (by decide)) (fun hc7 => ?_)
  refine g_aloadN C X0 d46_10 11 rfl rfl ?_
  refine g_iloadN C X0 d46_11 12 rfl ?_
  refine g_caload C X0 e0 F0 (by decide) (v := (.int c1)) rfl d46_12 13 ?_
  refine g_istore C X0 d46_13 15 (w := c1) rfl (ls' := #[rv o1, iv 0, rv o2, iv 0, iv 2, iv 0, iv c1]) rfl ?_
  refine g_iload C X0 d46_15 17 rfl ?_
  refine g_sipush C X0 d46_17 20 (v := 255) rfl ?_
  refine g_icmp_le C X0 d46_20 26 23 (fun hc20 => ?_) (fun hc20 => absurd hc20 la1)
  refine g_aloadN C X0 d46_26 27 rfl rfl ?_
  refine g_iloadN C X0 d46_27 28 rfl ?_
  refine g_iload C X0 d46_28 30 rfl ?_
  refine g_i2b C X0 d46_30 31 ?_
  refine g_bastore C X0 (i := 0) e0 F1 (by decide) rfl (Nat.le_of_ble_eq_true rfl) d46_31 32 (fun T1 h1 X1 e1 W1 A1 => ?_)
  have f2 := F0.other W1 ne_o1_o2
  have f3 : Arv Z h1 o2 kd2 .byte 2 [(.int (nar .byte c1.toInt8.toInt32)), (.int 0)] (.int 0) := A1
  have N1 := Fr.snoc X1 N0 gn_o2
  have K1 := K00.wr W1 (Or.inl (List.mem_of_getElem? (i := 0) rfl))
  refine g_iinc C X1 d46_32 35 rfl (w := 1) rfl (ls' := #[rv o1, iv 1, rv o2, iv 0, iv 2, iv 0, iv c1]) rfl ?_
  refine g_iinc C X1 d46_35 38 rfl (w := 1) rfl (ls' := #[rv o1, iv 1, rv o2, iv 1, iv 2, iv 0, iv c1]) rfl ?_
  refine g_iinc C X1 d46_38 41 rfl (w := 1) rfl (ls' := #[rv o1, iv 1, rv o2, iv 1, iv 2, iv 1, iv c1]) rfl ?_
  refine g_goto C X1 d46_41 3 ?_
  refine g_iload C X1 d46_3 5 rfl ?_
  refine g_iload C X1 d46_5 7 rfl ?_
  refine g_icmp_ge C X1 d46_7 44 10 (fun hc7 => absurd hc7 (by decide)) (fun hc7 => ?_)
  refine g_aloadN C X1 d46_10 11 rfl rfl ?_
  refine g_iloadN C X1 d46_11 12 rfl ?_
  refine g_caload C X1 e1 f2 (by decide) (v := (.int c2)) rfl d46_12 13 ?_
  refine g_istore C X1 d46_13 15 (w := c2) rfl (ls' := #[rv o1, iv 1, rv o2, iv 1, iv 2, iv 1, iv c2]) rfl ?_
  refine g_iload C X1 d46_15 17 rfl ?_
  refine g_sipush C X1 d46_17 20 (v := 255) rfl ?_
  refine g_icmp_le C X1 d46_20 26 23 (fun hc20 => ?_) (fun hc20 => absurd hc20 la2)
  refine g_aloadN C X1 d46_26 27 rfl rfl ?_
  refine g_iloadN C X1 d46_27 28 rfl ?_
  refine g_iload C X1 d46_28 30 rfl ?_
  refine g_i2b C X1 d46_30 31 ?_
  refine g_bastore C X1 (i := 1) e1 f3 (by decide) rfl (Nat.le_of_ble_eq_true rfl) d46_31 32 (fun T4 h4 X4 e4 W4 A4 => ?_)
  have f6 : Arv Z h4 o2 kd2 .byte 2 [(.int (nar .byte c1.toInt8.toInt32)), (.int (nar .byte c2.toInt8.toInt32))] (.int 0) := A4
  have N4 := Fr.snoc X4 N1 gn_o2
  have K4 := K1.wr W4 (Or.inl (List.mem_of_getElem? (i := 0) rfl))
  refine g_iinc C X4 d46_32 35 rfl (w := 2) rfl (ls' := #[rv o1, iv 2, rv o2, iv 1, iv 2, iv 1, iv c2]) rfl ?_
  refine g_iinc C X4 d46_35 38 rfl (w := 2) rfl (ls' := #[rv o1, iv 2, rv o2, iv 2, iv 2, iv 1, iv c2]) rfl ?_
  refine g_iinc C X4 d46_38 41 rfl (w := 2) rfl (ls' := #[rv o1, iv 2, rv o2, iv 2, iv 2, iv 2, iv c2]) rfl ?_
  refine g_goto C X4 d46_41 3 ?_
  refine g_iload C X4 d46_3 5 rfl ?_
  refine g_iload C X4 d46_5 7 rfl ?_
  refine g_icmp_ge C X4 d46_7 44 10 (fun hc7 => ?_) (fun hc7 => absurd hc7 (by decide))
  refine g_iload C X4 d46_44 46 rfl ?_
  exact g_retI C X4 K d46_46 (by decide) (by decide) e4 ⟨rfl, N4, K4, f6⟩
def Q45_2 (Z : State) (o1 : Addr) (kd1 : ClassId) (c1 : Int32) (c2 : Int32) (h0 : Heap) (n0 : Nat) (v : Option Value) (h : Heap) (L : List Loc) : Prop := ∃ (o3 : Addr) (kd3 : ClassId), v = some (.ref o3) ∧ Fr n0 L ∧ h0.size ≤ o3 ∧ Keep h0 h [] ∧ Arv Z h o3 kd3 .byte 2 [(.int (nar .byte c1.toInt8.toInt32)), (.int (nar .byte c2.toInt8.toInt32))] (.int 0)
theorem rm45_2 {o1 : Addr} {kd1 : ClassId} {c1 c2 : Int32} (hw : OwnW a0 Z) (Z0 : n0 ≤ h0.size) (F0 : Arv Z h0 o1 kd1 .char 2 [(.int c1), (.int c2)] (.int 0)) (la1 : ¬ (255 : Int32) < c1) (la2 : ¬ (255 : Int32) < c2) : OwnMF l Z y45 jdk_52_method_16_code 6 (some (.array .byte)) ws ⟨1, 1, 2, 18⟩ #[(.ref o1), (.int 0), (.int 2)] h0 (Q45_2 Z o1 kd1 c1 c2 h0 n0) := by
  refine bo (plainFor_of_name pn_45) ?_
  intro p e s m below meth c T0 G C hnm hnamed X0 e0 K
  have N0 := Fr.nil n0
  refine Goes.to (congrArg T0.setTop (ef_45rii m o1 (0 : Int32) (2 : Int32))) ?_
  have K00 := Keep.refl h0 []
  refine g_iloadN C X0 d45_0 1 rfl ?_
  refine g_newA (aty := .byte) (n := (2 : Int32)) C X0 (cap := 2) (w_14 hw) e0 d45_1 3 (by decide) (by decide) (by decide) (by decide) (by decide) (fun T1 h1 b1 ki1 X1 e1 g1 E1 A1 => ?_)
  have n2 : o1 ≠ b1 := Nat.ne_of_lt (Nat.lt_of_lt_of_eq F0.lt g1.symm)
  have f3 := F0.ext E1
  have gn_b1 : n0 ≤ b1 := Nat.le_trans Z0 (Nat.le_of_eq g1.symm)
  have Z1 := Nat.le_trans Z0 E1.1
  have sz_b1 : h0.size ≤ b1 := Nat.le_trans K00.1 (Nat.le_of_eq g1.symm)
  have K1 := K00.ext E1
  have f4 : Arv Z h1 b1 ki1 .byte 2 [(.int 0), (.int 0)] (.int 0) := A1.pad (pad_rep [] (.int 0) 2)
  refine g_astoreN C X1 d45_3 4 rfl (ls' := #[rv o1, iv 0, iv 2, rv b1, uu, uu]) rfl ?_
  refine g_aloadN C X1 d45_4 5 rfl rfl ?_
  refine g_iloadN C X1 d45_5 6 rfl ?_
  refine g_aloadN C X1 d45_6 7 rfl rfl ?_
  refine g_iconst C X1 d45_7 8 (v := 0) rfl ?_
  refine g_iloadN C X1 d45_8 9 rfl ?_
  refine g_callS C X1 (w_240 hw) (w_241 hw) (w_238 hw) (w_242 hw) d45_9 [(.ref o1), (.int 0), (.ref b1), (.int 0), (.int 2)] [] 0 (rm46_2 hw Z1 f3 f4 gn_b1 la1 la2 n2) pd_30 e1 12 (fun u5 T5 L5 X5 hQ5 => ?_)
  obtain ⟨rfl, Nq5, Kq5, q5_0⟩ := hQ5
  have N5 := Fr.app N0 Nq5
  have K5 := K1.trans Kq5 (allS (Or.inr sz_b1) all0)
  refine ret1 ?_
  refine g_istore C X5 d45_12 14 (w := 2) rfl (ls' := #[rv o1, iv 0, iv 2, rv b1, iv 2, uu]) rfl ?_
  refine g_iload C X5 d45_14 16 rfl ?_
  refine g_iloadN C X5 d45_16 17 rfl ?_
  refine g_icmp_eq C X5 d45_17 57 20 (fun hc17 => ?_) (fun hc17 => absurd hc17 (by decide))
  refine g_aloadN C X5 d45_57 58 rfl rfl ?_
  exact g_retA C X5 K rfl rfl rfl d45_58 (by decide) (by decide) rfl ⟨b1, ki1, rfl, N5, sz_b1, K5, q5_0⟩
theorem rm47_2 {o1 : Addr} {kd1 : ClassId} {c1 c2 : Int32} (hw : OwnW a0 Z) (Z0 : n0 ≤ h0.size) (F0 : Arv Z h0 o1 kd1 .byte 2 [(.int c1), (.int c2)] (.int 0)) : OwnMF l Z y47 jdk_52_method_15_code 2 (some .byte) ws ⟨0, 0, 0, 0⟩ #[(.ref o1), (.int 2)] h0 (OwnQ (some (.int 0)) h0 n0) := by
  refine bo (plainFor_of_name pn_45) ?_
  intro p e s m below meth c T0 G C hnm hnamed X0 e0 K
  have N0 := Fr.nil n0
  refine Goes.to (congrArg T0.setTop (ef_47ri m o1 (2 : Int32))) ?_
  refine g_iloadN C X0 d47_0 1 rfl ?_
  refine g_aloadN C X0 d47_1 2 rfl rfl ?_
  refine g_arraylength C X0 e0 F0 d47_2 3 ?_
  refine g_isub C X0 d47_3 4 ?_
  rw [show (2 : Int32) - 2 = 0 from by decide]
  refine g_bipush C X0 d47_4 6 (v := 31) rfl ?_
  refine g_iushr C X0 d47_6 7 ?_
  refine g_i2b C X0 d47_7 8 ?_
  exact g_retN C X0 K (by simp) d47_8 (by decide) (by decide) e0 ⟨(by decide), N0, rfl⟩
def Q10_2 (Z : State) (o1 : Addr) (o2 : Addr) (kd1 : ClassId) (c1 : Int32) (c2 : Int32) (cs1 : Int32) (h0 : Heap) (n0 : Nat) (v : Option Value) (h : Heap) (L : List Loc) : Prop := ∃ (o3 : Addr) (kd3 : ClassId), v = none ∧ Fr n0 L ∧ h0.size ≤ o3 ∧ Keep h0 h [o1] ∧ OEs Z h o1 ∧ OFv Z h o1 (.ref o3) ∧ OFc Z h o1 ∧ Arv Z h o3 kd3 .byte 2 [(.int (nar .byte c1.toInt8.toInt32)), (.int (nar .byte c2.toInt8.toInt32))] (.int 0)
theorem rm10_2 {o1 o2 : Addr} {kd1 : ClassId} {c1 c2 cs1 : Int32} (hw : OwnW a0 Z) (Z0 : n0 ≤ h0.size) (F0 : OEs Z h0 o1) (F1 : OFv Z h0 o1 .null) (F2 : OFc Z h0 o1) (F3 : Arv Z h0 o2 kd1 .char 2 [(.int c1), (.int c2)] (.int 0)) (F4 : OSc Z h0 cs1) (gn_o1 : n0 ≤ o1) (la1 : ¬ (255 : Int32) < c1) (la2 : ¬ (255 : Int32) < c2) (hcs : ¬ cs1 = (0 : Int32)) (ne_o1_o2 : o1 ≠ o2) : OwnMF l Z y10 jdk_42_method_149_code 6 none ws ⟨2, 1, 2, 35⟩ #[(.ref o1), (.ref o2), (.int 0), (.int 2), .null] h0 (Q10_2 Z o1 o2 kd1 c1 c2 cs1 h0 n0) := by
  refine bo (plainFor_of_name pn_1) ?_
  intro p e s m below meth c T0 G C hnm hnamed X0 e0 K
  have N0 := Fr.nil n0
  refine Goes.to (congrArg T0.setTop (ef_10rriin m o1 o2 (0 : Int32) (2 : Int32))) ?_
  have K00 := Keep.refl h0 [o1]
  refine g_aloadN C X0 d10_0 1 rfl rfl ?_
  refine g_initO C X0 (w_19 hw) (w_20 hw) (w_21 hw) e0 rfl d10_1 4 (by decide) (W := 0) (Nat.le_of_eq rfl) (by decide) (fun T1 X1 e1 => ?_)
  refine g_iloadN C X1 d10_4 5 rfl ?_
  refine g_if_ne C X1 d10_5 27 8 (fun hc5 => ?_) (fun hc5 => absurd hc5 (by decide))
  refine g_getS C X1 (w_4 hw) Via.refl e1 F4 d10_27 30 (fun T2 X2 e2 => ?_)
  refine g_if_eq C X2 d10_30 58 33 (fun hc30 => absurd hc30 hcs) (fun hc30 => ?_)
  refine g_aloadN C X2 d10_33 34 rfl rfl ?_
  refine g_iloadN C X2 d10_34 35 rfl ?_
  refine g_iloadN C X2 d10_35 36 rfl ?_
  refine g_callS C X2 (w_236 hw) (w_237 hw) (w_238 hw) (w_239 hw) d10_36 [(.ref o2), (.int 0), (.int 2)] [] 0 (rm45_2 hw Z0 F3 la1 la2) pd_31 e2 39 (fun u3 T3 L3 X3 hQ3 => ?_)
  obtain ⟨o33, kd33, rfl, Nq3, szo33, Kq3, q3_0⟩ := hQ3
  have N3 := Fr.app N0 Nq3
  have n4 : o1 ≠ o33 := Nat.ne_of_lt (Nat.lt_of_lt_of_le F0.lt szo33)
  have f6 := F0.keep Kq3
  have f7 := F1.keep Kq3 nin0
  have f8 := F2.keep Kq3 nin0
  have Z3 := Nat.le_trans Z0 Kq3.1
  have sz_o33 : h0.size ≤ o33 := Nat.le_trans K00.1 szo33
  have K3 := K00.trans Kq3 all0
  refine ret1 ?_
  refine g_astore C X3 d10_39 41 rfl (ls' := #[rv o1, rv o2, iv 0, iv 2, nv, rv o33]) rfl ?_
  refine g_aloadN C X3 d10_41 42 rfl rfl ?_
  refine g_aload C X3 d10_42 44 rfl rfl ?_
  refine g_iloadN C X3 d10_44 45 rfl ?_
  refine g_callS0 C X3 (b_19 hw) d10_45 [(.ref o33), (.int 2)] [(.ref o1)] 1 (rm47_2 hw Z3 q3_0) N3 pd_32 rfl 48 (fun T11 _ X11 N11 e11 => ?_)
  refine g_putFN C X11 (w_24 hw) Via.refl e11 f8 f6 (Or.inr ⟨(w_25 hw), rfl, hnm⟩) (w_10 hw) (ty := .byte) (by decide) (v' := (.int 0)) (by decide) (by decide) d10_48 51 (fun T12 h12 X12 e12 W12 => ?_)
  have f13 := f6.wr W12
  have f14 := f7.other W12 (Or.inr (slot_ne (Or.inr (w_23 hw)) (Or.inr (w_25 hw)) (by decide) (t := (.array .byte)) (t' := .byte) (by decide) (by decide)))
  have f15 := f8.same W12
  have f18 := q3_0.other W12 (Ne.symm n4)
  have N12 := Fr.snoc X12 N11 gn_o1
  have K12 := K3.wr W12 (Or.inl (List.mem_of_getElem? (i := 0) rfl))
  refine g_aloadN C X12 d10_51 52 rfl rfl ?_
  refine g_aload C X12 d10_52 54 rfl rfl ?_
  refine g_putF C X12 (w_22 hw) Via.refl e12 f14 f13 (Or.inr ⟨(w_23 hw), rfl, hnm⟩) (w_10 hw) (ty := (.array .byte)) (by decide) rfl rfl d10_54 57 (fun T19 h19 X19 e19 W19 => ?_)
  have f20 := f13.wr W19
  have f21 := f14.same W19
  have f22 := f15.other W19 (Or.inr (slot_ne (Or.inr (w_25 hw)) (Or.inr (w_23 hw)) (by decide) (t := .byte) (t' := (.array .byte)) (by decide) (by decide)))
  have f25 := f18.other W19 (Ne.symm n4)
  have N19 := Fr.snoc X19 N12 gn_o1
  have K19 := K12.wr W19 (Or.inl (List.mem_of_getElem? (i := 0) rfl))
  exact g_retV C X19 K d10_57 (by decide) (by decide) e19 ⟨o33, kd33, rfl, N19, sz_o33, K19, f20, f21, f22, f25⟩
def Q9_2 (Z : State) (o1 : Addr) (o2 : Addr) (kd1 : ClassId) (c1 : Int32) (c2 : Int32) (cs1 : Int32) (h0 : Heap) (n0 : Nat) (v : Option Value) (h : Heap) (L : List Loc) : Prop := ∃ (o3 : Addr) (kd3 : ClassId), v = none ∧ Fr n0 L ∧ h0.size ≤ o3 ∧ Keep h0 h [o1] ∧ OEs Z h o1 ∧ OFv Z h o1 (.ref o3) ∧ OFc Z h o1 ∧ Arv Z h o3 kd3 .byte 2 [(.int (nar .byte c1.toInt8.toInt32)), (.int (nar .byte c2.toInt8.toInt32))] (.int 0)
theorem rm9_2 {o1 o2 : Addr} {kd1 : ClassId} {c1 c2 cs1 : Int32} (hw : OwnW a0 Z) (Z0 : n0 ≤ h0.size) (F0 : OEs Z h0 o1) (F1 : OFv Z h0 o1 .null) (F2 : OFc Z h0 o1) (F3 : Arv Z h0 o2 kd1 .char 2 [(.int c1), (.int c2)] (.int 0)) (F4 : OSc Z h0 cs1) (gn_o1 : n0 ≤ o1) (la1 : ¬ (255 : Int32) < c1) (la2 : ¬ (255 : Int32) < c2) (hcs : ¬ cs1 = (0 : Int32)) (ne_o1_o2 : o1 ≠ o2) : OwnMF l Z y9 jdk_42_method_3_code 2 none ws ⟨3, 1, 2, 52⟩ #[(.ref o1), (.ref o2)] h0 (Q9_2 Z o1 o2 kd1 c1 c2 cs1 h0 n0) := by
  refine bo (plainFor_of_name pn_1) ?_
  intro p e s m below meth c T0 G C hnm hnamed X0 e0 K
  have N0 := Fr.nil n0
  refine Goes.to (congrArg T0.setTop (ef_9rr m o1 o2)) ?_
  have K00 := Keep.refl h0 [o1]
  refine g_aloadN C X0 d9_0 1 rfl rfl ?_
  refine g_aloadN C X0 d9_1 2 rfl rfl ?_
  refine g_iconst C X0 d9_2 3 (v := 0) rfl ?_
  refine g_aloadN C X0 d9_3 4 rfl rfl ?_
  refine g_arraylength C X0 e0 F3 d9_4 5 ?_
  refine g_aconstNull C X0 d9_5 6 ?_
  refine g_callI C X0 rfl (w_56 hw) (w_57 hw) (w_2 hw) (w_58 hw) d9_6 [(.ref o2), (.int 0), (.int 2), .null] [] 0 (rm10_2 hw Z0 F0 F1 F2 F3 F4 gn_o1 la1 la2 hcs ne_o1_o2) pd_29 e0 9 (fun u1 T1 L1 X1 hQ1 => ?_)
  obtain ⟨o31, kd31, rfl, Nq1, szo31, Kq1, q1_0, q1_1, q1_2, q1_3⟩ := hQ1
  have N1 := Fr.app N0 Nq1
  have sz_o31 : h0.size ≤ o31 := Nat.le_trans K00.1 szo31
  have K1 := K00.trans Kq1 (allS (Or.inl (List.mem_of_getElem? (i := 0) rfl)) all0)
  refine ret0 ?_
  exact g_retV C X1 K d9_9 (by decide) (by decide) rfl ⟨o31, kd31, rfl, N1, sz_o31, K1, q1_0, q1_1, q1_2, q1_3⟩
def Q46_3 (Z : State) (o1 : Addr) (o2 : Addr) (kd1 : ClassId) (kd2 : ClassId) (c1 : Int32) (c2 : Int32) (c3 : Int32) (h0 : Heap) (n0 : Nat) (v : Option Value) (h : Heap) (L : List Loc) : Prop := v = some (.int 3) ∧ Fr n0 L ∧ Keep h0 h [o2] ∧ Arv Z h o2 kd2 .byte 3 [(.int (nar .byte c1.toInt8.toInt32)), (.int (nar .byte c2.toInt8.toInt32)), (.int (nar .byte c3.toInt8.toInt32))] (.int 0)
theorem rm46_3 {o1 o2 : Addr} {kd1 kd2 : ClassId} {c1 c2 c3 : Int32} (hw : OwnW a0 Z) (Z0 : n0 ≤ h0.size) (F0 : Arv Z h0 o1 kd1 .char 3 [(.int c1), (.int c2), (.int c3)] (.int 0)) (F1 : Arv Z h0 o2 kd2 .byte 3 [(.int 0), (.int 0), (.int 0)] (.int 0)) (gn_o2 : n0 ≤ o2) (la1 : ¬ (255 : Int32) < c1) (la2 : ¬ (255 : Int32) < c2) (la3 : ¬ (255 : Int32) < c3) (ne_o1_o2 : o1 ≠ o2) : OwnMF l Z y46 jdk_52_method_21_code 7 (some .int) ws ⟨0, 0, 0, 0⟩ #[(.ref o1), (.int 0), (.ref o2), (.int 0), (.int 3)] h0 (Q46_3 Z o1 o2 kd1 kd2 c1 c2 c3 h0 n0) := by
  refine bo (plainFor_of_name pn_45) ?_
  intro p e s m below meth c T0 G C hnm hnamed X0 e0 K
  have N0 := Fr.nil n0
  refine Goes.to (congrArg T0.setTop (ef_46ririi m o1 (0 : Int32) o2 (0 : Int32) (3 : Int32))) ?_
  have K00 := Keep.refl h0 [o2]
  refine g_iconst C X0 d46_0 1 (v := 0) rfl ?_
  refine g_istore C X0 d46_1 3 (w := 0) rfl (ls' := #[rv o1, iv 0, rv o2, iv 0, iv 3, iv 0, uu]) rfl ?_
  refine g_iload C X0 d46_3 5 rfl ?_
  refine g_iload C X0 d46_5 7 rfl ?_
  refine g_icmp_ge C X0 d46_7 44 10 (fun hc7 => absurd hc7 (by decide)) (fun hc7 => ?_)
  refine g_aloadN C X0 d46_10 11 rfl rfl ?_
  refine g_iloadN C X0 d46_11 12 rfl ?_
  refine g_caload C X0 e0 F0 (by decide) (v := (.int c1)) rfl d46_12 13 ?_
  refine g_istore C X0 d46_13 15 (w := c1) rfl (ls' := #[rv o1, iv 0, rv o2, iv 0, iv 3, iv 0, iv c1]) rfl ?_
  refine g_iload C X0 d46_15 17 rfl ?_
  refine g_sipush C X0 d46_17 20 (v := 255) rfl ?_
  refine g_icmp_le C X0 d46_20 26 23 (fun hc20 => ?_) (fun hc20 => absurd hc20 la1)
  refine g_aloadN C X0 d46_26 27 rfl rfl ?_
  refine g_iloadN C X0 d46_27 28 rfl ?_
  refine g_iload C X0 d46_28 30 rfl ?_
  refine g_i2b C X0 d46_30 31 ?_
  refine g_bastore C X0 (i := 0) e0 F1 (by decide) rfl (Nat.le_of_ble_eq_true rfl) d46_31 32 (fun T1 h1 X1 e1 W1 A1 => ?_)
  have f2 := F0.other W1 ne_o1_o2
  have f3 : Arv Z h1 o2 kd2 .byte 3 [(.int (nar .byte c1.toInt8.toInt32)), (.int 0), (.int 0)] (.int 0) := A1
  have N1 := Fr.snoc X1 N0 gn_o2
  have K1 := K00.wr W1 (Or.inl (List.mem_of_getElem? (i := 0) rfl))
  refine g_iinc C X1 d46_32 35 rfl (w := 1) rfl (ls' := #[rv o1, iv 1, rv o2, iv 0, iv 3, iv 0, iv c1]) rfl ?_
  refine g_iinc C X1 d46_35 38 rfl (w := 1) rfl (ls' := #[rv o1, iv 1, rv o2, iv 1, iv 3, iv 0, iv c1]) rfl ?_
  refine g_iinc C X1 d46_38 41 rfl (w := 1) rfl (ls' := #[rv o1, iv 1, rv o2, iv 1, iv 3, iv 1, iv c1]) rfl ?_
  refine g_goto C X1 d46_41 3 ?_
  refine g_iload C X1 d46_3 5 rfl ?_
  refine g_iload C X1 d46_5 7 rfl ?_
  refine g_icmp_ge C X1 d46_7 44 10 (fun hc7 => absurd hc7 (by decide)) (fun hc7 => ?_)
  refine g_aloadN C X1 d46_10 11 rfl rfl ?_
  refine g_iloadN C X1 d46_11 12 rfl ?_
  refine g_caload C X1 e1 f2 (by decide) (v := (.int c2)) rfl d46_12 13 ?_
  refine g_istore C X1 d46_13 15 (w := c2) rfl (ls' := #[rv o1, iv 1, rv o2, iv 1, iv 3, iv 1, iv c2]) rfl ?_
  refine g_iload C X1 d46_15 17 rfl ?_
  refine g_sipush C X1 d46_17 20 (v := 255) rfl ?_
  refine g_icmp_le C X1 d46_20 26 23 (fun hc20 => ?_) (fun hc20 => absurd hc20 la2)
  refine g_aloadN C X1 d46_26 27 rfl rfl ?_
  refine g_iloadN C X1 d46_27 28 rfl ?_
  refine g_iload C X1 d46_28 30 rfl ?_
  refine g_i2b C X1 d46_30 31 ?_
  refine g_bastore C X1 (i := 1) e1 f3 (by decide) rfl (Nat.le_of_ble_eq_true rfl) d46_31 32 (fun T4 h4 X4 e4 W4 A4 => ?_)
  have f5 := f2.other W4 ne_o1_o2
  have f6 : Arv Z h4 o2 kd2 .byte 3 [(.int (nar .byte c1.toInt8.toInt32)), (.int (nar .byte c2.toInt8.toInt32)), (.int 0)] (.int 0) := A4
  have N4 := Fr.snoc X4 N1 gn_o2
  have K4 := K1.wr W4 (Or.inl (List.mem_of_getElem? (i := 0) rfl))
  refine g_iinc C X4 d46_32 35 rfl (w := 2) rfl (ls' := #[rv o1, iv 2, rv o2, iv 1, iv 3, iv 1, iv c2]) rfl ?_
  refine g_iinc C X4 d46_35 38 rfl (w := 2) rfl (ls' := #[rv o1, iv 2, rv o2, iv 2, iv 3, iv 1, iv c2]) rfl ?_
  refine g_iinc C X4 d46_38 41 rfl (w := 2) rfl (ls' := #[rv o1, iv 2, rv o2, iv 2, iv 3, iv 2, iv c2]) rfl ?_
  refine g_goto C X4 d46_41 3 ?_
  refine g_iload C X4 d46_3 5 rfl ?_
  refine g_iload C X4 d46_5 7 rfl ?_
  refine g_icmp_ge C X4 d46_7 44 10 (fun hc7 => absurd hc7 (by decide)) (fun hc7 => ?_)
  refine g_aloadN C X4 d46_10 11 rfl rfl ?_
  refine g_iloadN C X4 d46_11 12 rfl ?_
  refine g_caload C X4 e4 f5 (by decide) (v := (.int c3)) rfl d46_12 13 ?_
  refine g_istore C X4 d46_13 15 (w := c3) rfl (ls' := #[rv o1, iv 2, rv o2, iv 2, iv 3, iv 2, iv c3]) rfl ?_
  refine g_iload C X4 d46_15 17 rfl ?_
  refine g_sipush C X4 d46_17 20 (v := 255) rfl ?_
  refine g_icmp_le C X4 d46_20 26 23 (fun hc20 => ?_) (fun hc20 => absurd hc20 la3)
  refine g_aloadN C X4 d46_26 27 rfl rfl ?_
  refine g_iloadN C X4 d46_27 28 rfl ?_
  refine g_iload C X4 d46_28 30 rfl ?_
  refine g_i2b C X4 d46_30 31 ?_
  refine g_bastore C X4 (i := 2) e4 f6 (by decide) rfl (Nat.le_of_ble_eq_true rfl) d46_31 32 (fun T7 h7 X7 e7 W7 A7 => ?_)
  have f9 : Arv Z h7 o2 kd2 .byte 3 [(.int (nar .byte c1.toInt8.toInt32)), (.int (nar .byte c2.toInt8.toInt32)), (.int (nar .byte c3.toInt8.toInt32))] (.int 0) := A7
  have N7 := Fr.snoc X7 N4 gn_o2
  have K7 := K4.wr W7 (Or.inl (List.mem_of_getElem? (i := 0) rfl))
  refine g_iinc C X7 d46_32 35 rfl (w := 3) rfl (ls' := #[rv o1, iv 3, rv o2, iv 2, iv 3, iv 2, iv c3]) rfl ?_
  refine g_iinc C X7 d46_35 38 rfl (w := 3) rfl (ls' := #[rv o1, iv 3, rv o2, iv 3, iv 3, iv 2, iv c3]) rfl ?_
  refine g_iinc C X7 d46_38 41 rfl (w := 3) rfl (ls' := #[rv o1, iv 3, rv o2, iv 3, iv 3, iv 3, iv c3]) rfl ?_
  refine g_goto C X7 d46_41 3 ?_
  refine g_iload C X7 d46_3 5 rfl ?_
  refine g_iload C X7 d46_5 7 rfl ?_
  refine g_icmp_ge C X7 d46_7 44 10 (fun hc7 => ?_) (fun hc7 => absurd hc7 (by decide))
  refine g_iload C X7 d46_44 46 rfl ?_
  exact g_retI C X7 K d46_46 (by decide) (by decide) e7 ⟨rfl, N7, K7, f9⟩
def Q45_3 (Z : State) (o1 : Addr) (kd1 : ClassId) (c1 : Int32) (c2 : Int32) (c3 : Int32) (h0 : Heap) (n0 : Nat) (v : Option Value) (h : Heap) (L : List Loc) : Prop := ∃ (o3 : Addr) (kd3 : ClassId), v = some (.ref o3) ∧ Fr n0 L ∧ h0.size ≤ o3 ∧ Keep h0 h [] ∧ Arv Z h o3 kd3 .byte 3 [(.int (nar .byte c1.toInt8.toInt32)), (.int (nar .byte c2.toInt8.toInt32)), (.int (nar .byte c3.toInt8.toInt32))] (.int 0)
theorem rm45_3 {o1 : Addr} {kd1 : ClassId} {c1 c2 c3 : Int32} (hw : OwnW a0 Z) (Z0 : n0 ≤ h0.size) (F0 : Arv Z h0 o1 kd1 .char 3 [(.int c1), (.int c2), (.int c3)] (.int 0)) (la1 : ¬ (255 : Int32) < c1) (la2 : ¬ (255 : Int32) < c2) (la3 : ¬ (255 : Int32) < c3) : OwnMF l Z y45 jdk_52_method_16_code 6 (some (.array .byte)) ws ⟨1, 1, 3, 18⟩ #[(.ref o1), (.int 0), (.int 3)] h0 (Q45_3 Z o1 kd1 c1 c2 c3 h0 n0) := by
  refine bo (plainFor_of_name pn_45) ?_
  intro p e s m below meth c T0 G C hnm hnamed X0 e0 K
  have N0 := Fr.nil n0
  refine Goes.to (congrArg T0.setTop (ef_45rii m o1 (0 : Int32) (3 : Int32))) ?_
  have K00 := Keep.refl h0 []
  refine g_iloadN C X0 d45_0 1 rfl ?_
  refine g_newA (aty := .byte) (n := (3 : Int32)) C X0 (cap := 3) (w_14 hw) e0 d45_1 3 (by decide) (by decide) (by decide) (by decide) (by decide) (fun T1 h1 b1 ki1 X1 e1 g1 E1 A1 => ?_)
  have n2 : o1 ≠ b1 := Nat.ne_of_lt (Nat.lt_of_lt_of_eq F0.lt g1.symm)
  have f3 := F0.ext E1
  have gn_b1 : n0 ≤ b1 := Nat.le_trans Z0 (Nat.le_of_eq g1.symm)
  have Z1 := Nat.le_trans Z0 E1.1
  have sz_b1 : h0.size ≤ b1 := Nat.le_trans K00.1 (Nat.le_of_eq g1.symm)
  have K1 := K00.ext E1
  have f4 : Arv Z h1 b1 ki1 .byte 3 [(.int 0), (.int 0), (.int 0)] (.int 0) := A1.pad (pad_rep [] (.int 0) 3)
  refine g_astoreN C X1 d45_3 4 rfl (ls' := #[rv o1, iv 0, iv 3, rv b1, uu, uu]) rfl ?_
  refine g_aloadN C X1 d45_4 5 rfl rfl ?_
  refine g_iloadN C X1 d45_5 6 rfl ?_
  refine g_aloadN C X1 d45_6 7 rfl rfl ?_
  refine g_iconst C X1 d45_7 8 (v := 0) rfl ?_
  refine g_iloadN C X1 d45_8 9 rfl ?_
  refine g_callS C X1 (w_240 hw) (w_241 hw) (w_238 hw) (w_242 hw) d45_9 [(.ref o1), (.int 0), (.ref b1), (.int 0), (.int 3)] [] 0 (rm46_3 hw Z1 f3 f4 gn_b1 la1 la2 la3 n2) pd_30 e1 12 (fun u5 T5 L5 X5 hQ5 => ?_)
  obtain ⟨rfl, Nq5, Kq5, q5_0⟩ := hQ5
  have N5 := Fr.app N0 Nq5
  have K5 := K1.trans Kq5 (allS (Or.inr sz_b1) all0)
  refine ret1 ?_
  refine g_istore C X5 d45_12 14 (w := 3) rfl (ls' := #[rv o1, iv 0, iv 3, rv b1, iv 3, uu]) rfl ?_
  refine g_iload C X5 d45_14 16 rfl ?_
  refine g_iloadN C X5 d45_16 17 rfl ?_
  refine g_icmp_eq C X5 d45_17 57 20 (fun hc17 => ?_) (fun hc17 => absurd hc17 (by decide))
  refine g_aloadN C X5 d45_57 58 rfl rfl ?_
  exact g_retA C X5 K rfl rfl rfl d45_58 (by decide) (by decide) rfl ⟨b1, ki1, rfl, N5, sz_b1, K5, q5_0⟩
theorem rm47_3 {o1 : Addr} {kd1 : ClassId} {c1 c2 c3 : Int32} (hw : OwnW a0 Z) (Z0 : n0 ≤ h0.size) (F0 : Arv Z h0 o1 kd1 .byte 3 [(.int c1), (.int c2), (.int c3)] (.int 0)) : OwnMF l Z y47 jdk_52_method_15_code 2 (some .byte) ws ⟨0, 0, 0, 0⟩ #[(.ref o1), (.int 3)] h0 (OwnQ (some (.int 0)) h0 n0) := by
  refine bo (plainFor_of_name pn_45) ?_
  intro p e s m below meth c T0 G C hnm hnamed X0 e0 K
  have N0 := Fr.nil n0
  refine Goes.to (congrArg T0.setTop (ef_47ri m o1 (3 : Int32))) ?_
  refine g_iloadN C X0 d47_0 1 rfl ?_
  refine g_aloadN C X0 d47_1 2 rfl rfl ?_
  refine g_arraylength C X0 e0 F0 d47_2 3 ?_
  refine g_isub C X0 d47_3 4 ?_
  rw [show (3 : Int32) - 3 = 0 from by decide]
  refine g_bipush C X0 d47_4 6 (v := 31) rfl ?_
  refine g_iushr C X0 d47_6 7 ?_
  refine g_i2b C X0 d47_7 8 ?_
  exact g_retN C X0 K (by simp) d47_8 (by decide) (by decide) e0 ⟨(by decide), N0, rfl⟩
def Q10_3 (Z : State) (o1 : Addr) (o2 : Addr) (kd1 : ClassId) (c1 : Int32) (c2 : Int32) (c3 : Int32) (cs1 : Int32) (h0 : Heap) (n0 : Nat) (v : Option Value) (h : Heap) (L : List Loc) : Prop := ∃ (o3 : Addr) (kd3 : ClassId), v = none ∧ Fr n0 L ∧ h0.size ≤ o3 ∧ Keep h0 h [o1] ∧ OEs Z h o1 ∧ OFv Z h o1 (.ref o3) ∧ OFc Z h o1 ∧ Arv Z h o3 kd3 .byte 3 [(.int (nar .byte c1.toInt8.toInt32)), (.int (nar .byte c2.toInt8.toInt32)), (.int (nar .byte c3.toInt8.toInt32))] (.int 0)
theorem rm10_3 {o1 o2 : Addr} {kd1 : ClassId} {c1 c2 c3 cs1 : Int32} (hw : OwnW a0 Z) (Z0 : n0 ≤ h0.size) (F0 : OEs Z h0 o1) (F1 : OFv Z h0 o1 .null) (F2 : OFc Z h0 o1) (F3 : Arv Z h0 o2 kd1 .char 3 [(.int c1), (.int c2), (.int c3)] (.int 0)) (F4 : OSc Z h0 cs1) (gn_o1 : n0 ≤ o1) (la1 : ¬ (255 : Int32) < c1) (la2 : ¬ (255 : Int32) < c2) (la3 : ¬ (255 : Int32) < c3) (hcs : ¬ cs1 = (0 : Int32)) (ne_o1_o2 : o1 ≠ o2) : OwnMF l Z y10 jdk_42_method_149_code 6 none ws ⟨2, 1, 3, 35⟩ #[(.ref o1), (.ref o2), (.int 0), (.int 3), .null] h0 (Q10_3 Z o1 o2 kd1 c1 c2 c3 cs1 h0 n0) := by
  refine bo (plainFor_of_name pn_1) ?_
  intro p e s m below meth c T0 G C hnm hnamed X0 e0 K
  have N0 := Fr.nil n0
  refine Goes.to (congrArg T0.setTop (ef_10rriin m o1 o2 (0 : Int32) (3 : Int32))) ?_
  have K00 := Keep.refl h0 [o1]
  refine g_aloadN C X0 d10_0 1 rfl rfl ?_
  refine g_initO C X0 (w_19 hw) (w_20 hw) (w_21 hw) e0 rfl d10_1 4 (by decide) (W := 0) (Nat.le_of_eq rfl) (by decide) (fun T1 X1 e1 => ?_)
  refine g_iloadN C X1 d10_4 5 rfl ?_
  refine g_if_ne C X1 d10_5 27 8 (fun hc5 => ?_) (fun hc5 => absurd hc5 (by decide))
  refine g_getS C X1 (w_4 hw) Via.refl e1 F4 d10_27 30 (fun T2 X2 e2 => ?_)
  refine g_if_eq C X2 d10_30 58 33 (fun hc30 => absurd hc30 hcs) (fun hc30 => ?_)
  refine g_aloadN C X2 d10_33 34 rfl rfl ?_
  refine g_iloadN C X2 d10_34 35 rfl ?_
  refine g_iloadN C X2 d10_35 36 rfl ?_
  refine g_callS C X2 (w_236 hw) (w_237 hw) (w_238 hw) (w_239 hw) d10_36 [(.ref o2), (.int 0), (.int 3)] [] 0 (rm45_3 hw Z0 F3 la1 la2 la3) pd_31 e2 39 (fun u3 T3 L3 X3 hQ3 => ?_)
  obtain ⟨o33, kd33, rfl, Nq3, szo33, Kq3, q3_0⟩ := hQ3
  have N3 := Fr.app N0 Nq3
  have n4 : o1 ≠ o33 := Nat.ne_of_lt (Nat.lt_of_lt_of_le F0.lt szo33)
  have f6 := F0.keep Kq3
  have f7 := F1.keep Kq3 nin0
  have f8 := F2.keep Kq3 nin0
  have Z3 := Nat.le_trans Z0 Kq3.1
  have sz_o33 : h0.size ≤ o33 := Nat.le_trans K00.1 szo33
  have K3 := K00.trans Kq3 all0
  refine ret1 ?_
  refine g_astore C X3 d10_39 41 rfl (ls' := #[rv o1, rv o2, iv 0, iv 3, nv, rv o33]) rfl ?_
  refine g_aloadN C X3 d10_41 42 rfl rfl ?_
  refine g_aload C X3 d10_42 44 rfl rfl ?_
  refine g_iloadN C X3 d10_44 45 rfl ?_
  refine g_callS0 C X3 (b_19 hw) d10_45 [(.ref o33), (.int 3)] [(.ref o1)] 1 (rm47_3 hw Z3 q3_0) N3 pd_32 rfl 48 (fun T11 _ X11 N11 e11 => ?_)
  refine g_putFN C X11 (w_24 hw) Via.refl e11 f8 f6 (Or.inr ⟨(w_25 hw), rfl, hnm⟩) (w_10 hw) (ty := .byte) (by decide) (v' := (.int 0)) (by decide) (by decide) d10_48 51 (fun T12 h12 X12 e12 W12 => ?_)
  have f13 := f6.wr W12
  have f14 := f7.other W12 (Or.inr (slot_ne (Or.inr (w_23 hw)) (Or.inr (w_25 hw)) (by decide) (t := (.array .byte)) (t' := .byte) (by decide) (by decide)))
  have f15 := f8.same W12
  have f18 := q3_0.other W12 (Ne.symm n4)
  have N12 := Fr.snoc X12 N11 gn_o1
  have K12 := K3.wr W12 (Or.inl (List.mem_of_getElem? (i := 0) rfl))
  refine g_aloadN C X12 d10_51 52 rfl rfl ?_
  refine g_aload C X12 d10_52 54 rfl rfl ?_
  refine g_putF C X12 (w_22 hw) Via.refl e12 f14 f13 (Or.inr ⟨(w_23 hw), rfl, hnm⟩) (w_10 hw) (ty := (.array .byte)) (by decide) rfl rfl d10_54 57 (fun T19 h19 X19 e19 W19 => ?_)
  have f20 := f13.wr W19
  have f21 := f14.same W19
  have f22 := f15.other W19 (Or.inr (slot_ne (Or.inr (w_25 hw)) (Or.inr (w_23 hw)) (by decide) (t := .byte) (t' := (.array .byte)) (by decide) (by decide)))
  have f25 := f18.other W19 (Ne.symm n4)
  have N19 := Fr.snoc X19 N12 gn_o1
  have K19 := K12.wr W19 (Or.inl (List.mem_of_getElem? (i := 0) rfl))
  exact g_retV C X19 K d10_57 (by decide) (by decide) e19 ⟨o33, kd33, rfl, N19, sz_o33, K19, f20, f21, f22, f25⟩
def Q9_3 (Z : State) (o1 : Addr) (o2 : Addr) (kd1 : ClassId) (c1 : Int32) (c2 : Int32) (c3 : Int32) (cs1 : Int32) (h0 : Heap) (n0 : Nat) (v : Option Value) (h : Heap) (L : List Loc) : Prop := ∃ (o3 : Addr) (kd3 : ClassId), v = none ∧ Fr n0 L ∧ h0.size ≤ o3 ∧ Keep h0 h [o1] ∧ OEs Z h o1 ∧ OFv Z h o1 (.ref o3) ∧ OFc Z h o1 ∧ Arv Z h o3 kd3 .byte 3 [(.int (nar .byte c1.toInt8.toInt32)), (.int (nar .byte c2.toInt8.toInt32)), (.int (nar .byte c3.toInt8.toInt32))] (.int 0)
theorem rm9_3 {o1 o2 : Addr} {kd1 : ClassId} {c1 c2 c3 cs1 : Int32} (hw : OwnW a0 Z) (Z0 : n0 ≤ h0.size) (F0 : OEs Z h0 o1) (F1 : OFv Z h0 o1 .null) (F2 : OFc Z h0 o1) (F3 : Arv Z h0 o2 kd1 .char 3 [(.int c1), (.int c2), (.int c3)] (.int 0)) (F4 : OSc Z h0 cs1) (gn_o1 : n0 ≤ o1) (la1 : ¬ (255 : Int32) < c1) (la2 : ¬ (255 : Int32) < c2) (la3 : ¬ (255 : Int32) < c3) (hcs : ¬ cs1 = (0 : Int32)) (ne_o1_o2 : o1 ≠ o2) : OwnMF l Z y9 jdk_42_method_3_code 2 none ws ⟨3, 1, 3, 52⟩ #[(.ref o1), (.ref o2)] h0 (Q9_3 Z o1 o2 kd1 c1 c2 c3 cs1 h0 n0) := by
  refine bo (plainFor_of_name pn_1) ?_
  intro p e s m below meth c T0 G C hnm hnamed X0 e0 K
  have N0 := Fr.nil n0
  refine Goes.to (congrArg T0.setTop (ef_9rr m o1 o2)) ?_
  have K00 := Keep.refl h0 [o1]
  refine g_aloadN C X0 d9_0 1 rfl rfl ?_
  refine g_aloadN C X0 d9_1 2 rfl rfl ?_
  refine g_iconst C X0 d9_2 3 (v := 0) rfl ?_
  refine g_aloadN C X0 d9_3 4 rfl rfl ?_
  refine g_arraylength C X0 e0 F3 d9_4 5 ?_
  refine g_aconstNull C X0 d9_5 6 ?_
  refine g_callI C X0 rfl (w_56 hw) (w_57 hw) (w_2 hw) (w_58 hw) d9_6 [(.ref o2), (.int 0), (.int 3), .null] [] 0 (rm10_3 hw Z0 F0 F1 F2 F3 F4 gn_o1 la1 la2 la3 hcs ne_o1_o2) pd_29 e0 9 (fun u1 T1 L1 X1 hQ1 => ?_)
  obtain ⟨o31, kd31, rfl, Nq1, szo31, Kq1, q1_0, q1_1, q1_2, q1_3⟩ := hQ1
  have N1 := Fr.app N0 Nq1
  have sz_o31 : h0.size ≤ o31 := Nat.le_trans K00.1 szo31
  have K1 := K00.trans Kq1 (allS (Or.inl (List.mem_of_getElem? (i := 0) rfl)) all0)
  refine ret0 ?_
  exact g_retV C X1 K d9_9 (by decide) (by decide) rfl ⟨o31, kd31, rfl, N1, sz_o31, K1, q1_0, q1_1, q1_2, q1_3⟩
theorem ef_2i (m : MethodId) (a1 : Int32) : entryFrame m #[(.int a1)] 1 = mkF m 0 #[iv a1] [] := by first | (simp [entryFrame, mkF, argsToLocals, Value.category, iv, rv, jv, nv, uu, sd]; done) | rfl
theorem d2_0 : decode jdk_43_method_3_code 0 = .ok (.iload_n 0, 1) := by decide +kernel
theorem d2_1 : decode jdk_43_method_3_code 1 = .ok (.sipush 255, 3) := by decide +kernel
theorem d2_4 : decode jdk_43_method_3_code 4 = .ok (.if_icmp .gt 7, 3) := by decide +kernel
theorem d2_11 : decode jdk_43_method_3_code 11 = .ok (.iconst 0, 1) := by decide +kernel
theorem d2_12 : decode jdk_43_method_3_code 12 = .ok (.ireturn, 1) := by decide +kernel
theorem d2_7 : decode jdk_43_method_3_code 7 = .ok (.iconst 1, 1) := by decide +kernel
theorem d2_8 : decode jdk_43_method_3_code 8 = .ok (.goto 4, 3) := by decide +kernel
def fCan (x0 : Int32) : Int32 := if (255 : Int32) < x0 then (0 : Int32) else (1 : Int32)
abbrev y2 : MethodName := (⟨"java/lang/StringLatin1", "canEncode", "(C)Z"⟩ : MethodName)
theorem rm2 {x0 : Int32} (hw : OwnW a0 Z) (Z0 : n0 ≤ h0.size) : OwnMF l Z y2 jdk_43_method_3_code 1 (some .boolean) ws ⟨0, 0, 0, 0⟩ #[(.int x0)] h0 (OwnQ (some (.int (fCan x0))) h0 n0) := by
  refine bo (plainFor_of_name pn_2) ?_
  intro p e s m below meth c T0 G C hnm hnamed X0 e0 K
  have N0 := Fr.nil n0
  refine Goes.to (congrArg T0.setTop (ef_2i m x0)) ?_
  refine g_iloadN C X0 d2_0 1 rfl ?_
  refine g_sipush C X0 d2_1 4 (v := 255) rfl ?_
  refine g_icmp_gt C X0 d2_4 11 7 (fun hc4 => ?_) (fun hc4 => ?_)
  · refine g_iconst C X0 d2_11 12 (v := 0) rfl ?_
    exact g_retN C X0 K (by simp) d2_12 (by decide) (by decide) e0 ⟨by (unfold fCan; rw [if_pos hc4]) <;> rfl, N0, rfl⟩
  · refine g_iconst C X0 d2_7 8 (v := 1) rfl ?_
    refine g_goto C X0 d2_8 12 ?_
    exact g_retN C X0 K (by simp) d2_12 (by decide) (by decide) e0 ⟨by (unfold fCan; rw [if_neg hc4]) <;> rfl, N0, rfl⟩
theorem own_can {c : Int32} (h : ¬ (255 : Int32) < c) : fCan c = 1 := by unfold fCan; rw [if_neg h]
theorem ef_3i (m : MethodId) (a1 : Int32) : entryFrame m #[(.int a1)] 1 = mkF m 0 #[iv a1] [] := by first | (simp [entryFrame, mkF, argsToLocals, Value.category, iv, rv, jv, nv, uu, sd]; done) | rfl
theorem d3_0 : decode jdk_43_method_46_code 0 = .ok (.iconst 1, 1) := by decide +kernel
theorem d3_1 : decode jdk_43_method_46_code 1 = .ok (.newarray .byte, 2) := by decide +kernel
theorem d3_3 : decode jdk_43_method_46_code 3 = .ok (.dup, 1) := by decide +kernel
theorem d3_4 : decode jdk_43_method_46_code 4 = .ok (.iconst 0, 1) := by decide +kernel
theorem d3_5 : decode jdk_43_method_46_code 5 = .ok (.iload_n 0, 1) := by decide +kernel
theorem d3_6 : decode jdk_43_method_46_code 6 = .ok (.i2b, 1) := by decide +kernel
theorem d3_7 : decode jdk_43_method_46_code 7 = .ok (.bastore, 1) := by decide +kernel
theorem d3_8 : decode jdk_43_method_46_code 8 = .ok (.areturn, 1) := by decide +kernel
def Q3 (Z : State) (c1 : Int32) (h0 : Heap) (n0 : Nat) (v : Option Value) (h : Heap) (L : List Loc) : Prop := ∃ (o3 : Addr) (kd3 : ClassId), v = some (.ref o3) ∧ Fr n0 L ∧ h0.size ≤ o3 ∧ Keep h0 h [] ∧ Arv Z h o3 kd3 .byte 1 [(.int (nar .byte c1.toInt8.toInt32))] (.int 0)
abbrev y3 : MethodName := (⟨"java/lang/StringLatin1", "toBytes", "(C)[B"⟩ : MethodName)
theorem rm3 {c1 : Int32} (hw : OwnW a0 Z) (Z0 : n0 ≤ h0.size) : OwnMF l Z y3 jdk_43_method_46_code 1 (some (.array .byte)) ws ⟨0, 1, 1, 0⟩ #[(.int c1)] h0 (Q3 Z c1 h0 n0) := by
  refine bo (plainFor_of_name pn_2) ?_
  intro p e s m below meth c T0 G C hnm hnamed X0 e0 K
  have N0 := Fr.nil n0
  refine Goes.to (congrArg T0.setTop (ef_3i m c1)) ?_
  have K00 := Keep.refl h0 []
  refine g_iconst C X0 d3_0 1 (v := 1) rfl ?_
  refine g_newA (aty := .byte) (n := (1 : Int32)) C X0 (cap := 1) (w_14 hw) e0 d3_1 3 (by decide) (by decide) (by decide) (by decide) (by decide) (fun T1 h1 b1 ki1 X1 e1 g1 E1 A1 => ?_)
  have gn_b1 : n0 ≤ b1 := Nat.le_trans Z0 (Nat.le_of_eq g1.symm)
  have sz_b1 : h0.size ≤ b1 := Nat.le_trans K00.1 (Nat.le_of_eq g1.symm)
  have K1 := K00.ext E1
  have f2 : Arv Z h1 b1 ki1 .byte 1 [(.int 0)] (.int 0) := A1.pad (pad_rep [] (.int 0) 1)
  refine g_dup C X1 d3_3 4 rfl ?_
  refine g_iconst C X1 d3_4 5 (v := 0) rfl ?_
  refine g_iloadN C X1 d3_5 6 rfl ?_
  refine g_i2b C X1 d3_6 7 ?_
  refine g_bastore C X1 (i := 0) e1 f2 (by decide) rfl (Nat.le_of_ble_eq_true rfl) d3_7 8 (fun T3 h3 X3 e3 W3 A3 => ?_)
  have f4 : Arv Z h3 b1 ki1 .byte 1 [(.int (nar .byte c1.toInt8.toInt32))] (.int 0) := A3
  have N3 := Fr.snoc X3 N0 gn_b1
  have K3 := K1.wr W3 (Or.inr sz_b1)
  exact g_retA C X3 K rfl rfl rfl d3_8 (by decide) (by decide) e3 ⟨b1, ki1, rfl, N3, sz_b1, K3, f4⟩
theorem ef_4rri (m : MethodId) (a1 : Addr) (a2 : Addr) (a3 : Int32) : entryFrame m #[(.ref a1), (.ref a2), (.int a3)] 3 = mkF m 0 #[rv a1, rv a2, iv a3] [] := by first | (simp [entryFrame, mkF, argsToLocals, Value.category, iv, rv, jv, nv, uu, sd]; done) | rfl
theorem d4_0 : decode jdk_42_method_151_code 0 = .ok (.aload_n 0, 1) := by decide +kernel
theorem d4_1 : decode jdk_42_method_151_code 1 = .ok (.invokespecial 1, 3) := by decide +kernel
theorem d4_4 : decode jdk_42_method_151_code 4 = .ok (.aload_n 0, 1) := by decide +kernel
theorem d4_5 : decode jdk_42_method_151_code 5 = .ok (.aload_n 1, 1) := by decide +kernel
theorem d4_6 : decode jdk_42_method_151_code 6 = .ok (.putfield 9, 3) := by decide +kernel
theorem d4_9 : decode jdk_42_method_151_code 9 = .ok (.aload_n 0, 1) := by decide +kernel
theorem d4_10 : decode jdk_42_method_151_code 10 = .ok (.iload_n 2, 1) := by decide +kernel
theorem d4_11 : decode jdk_42_method_151_code 11 = .ok (.putfield 15, 3) := by decide +kernel
theorem d4_14 : decode jdk_42_method_151_code 14 = .ok (.return_, 1) := by decide +kernel
def Q4 (Z : State) (o1 : Addr) (o2 : Addr) (h0 : Heap) (n0 : Nat) (v : Option Value) (h : Heap) (L : List Loc) : Prop := v = none ∧ Fr n0 L ∧ Keep h0 h [o1] ∧ OEs Z h o1 ∧ OFv Z h o1 (.ref o2) ∧ OFc Z h o1
abbrev y4 : MethodName := (⟨"java/lang/String", "<init>", "([BB)V"⟩ : MethodName)
theorem rm4 {o1 o2 : Addr} (hw : OwnW a0 Z) (Z0 : n0 ≤ h0.size) (F0 : OEs Z h0 o1) (F1 : OFv Z h0 o1 .null) (F2 : OFc Z h0 o1) (gn_o1 : n0 ≤ o1) : OwnMF l Z y4 jdk_42_method_151_code 3 none ws ⟨1, 0, 0, 12⟩ #[(.ref o1), (.ref o2), (.int 0)] h0 (Q4 Z o1 o2 h0 n0) := by
  refine bo (plainFor_of_name pn_1) ?_
  intro p e s m below meth c T0 G C hnm hnamed X0 e0 K
  have N0 := Fr.nil n0
  refine Goes.to (congrArg T0.setTop (ef_4rri m o1 o2 (0 : Int32))) ?_
  have K00 := Keep.refl h0 [o1]
  refine g_aloadN C X0 d4_0 1 rfl rfl ?_
  refine g_initO C X0 (w_19 hw) (w_20 hw) (w_21 hw) e0 rfl d4_1 4 (by decide) (W := 0) (Nat.le_of_eq rfl) (by decide) (fun T1 X1 e1 => ?_)
  refine g_aloadN C X1 d4_4 5 rfl rfl ?_
  refine g_aloadN C X1 d4_5 6 rfl rfl ?_
  refine g_putF C X1 (w_22 hw) Via.refl e1 F1 F0 (Or.inr ⟨(w_23 hw), rfl, hnm⟩) (w_10 hw) (ty := (.array .byte)) (by decide) rfl rfl d4_6 9 (fun T2 h2 X2 e2 W2 => ?_)
  have f3 := F0.wr W2
  have f4 := F1.same W2
  have f5 := F2.other W2 (Or.inr (slot_ne (Or.inr (w_25 hw)) (Or.inr (w_23 hw)) (by decide) (t := .byte) (t' := (.array .byte)) (by decide) (by decide)))
  have N2 := Fr.snoc X2 N0 gn_o1
  have K2 := K00.wr W2 (Or.inl (List.mem_of_getElem? (i := 0) rfl))
  refine g_aloadN C X2 d4_9 10 rfl rfl ?_
  refine g_iloadN C X2 d4_10 11 rfl ?_
  refine g_putFN C X2 (w_24 hw) Via.refl e2 f5 f3 (Or.inr ⟨(w_25 hw), rfl, hnm⟩) (w_10 hw) (ty := .byte) (by decide) (v' := (.int 0)) (by decide) (by decide) d4_11 14 (fun T6 h6 X6 e6 W6 => ?_)
  have f7 := f3.wr W6
  have f8 := f4.other W6 (Or.inr (slot_ne (Or.inr (w_23 hw)) (Or.inr (w_25 hw)) (by decide) (t := (.array .byte)) (t' := .byte) (by decide) (by decide)))
  have f9 := f5.same W6
  have N6 := Fr.snoc X6 N2 gn_o1
  have K6 := K2.wr W6 (Or.inl (List.mem_of_getElem? (i := 0) rfl))
  exact g_retV C X6 K d4_14 (by decide) (by decide) e6 ⟨rfl, N6, K6, f7, f8, f9⟩
theorem ef_1i (m : MethodId) (a1 : Int32) : entryFrame m #[(.int a1)] 1 = mkF m 0 #[iv a1] [] := by first | (simp [entryFrame, mkF, argsToLocals, Value.category, iv, rv, jv, nv, uu, sd]; done) | rfl
theorem d1_0 : decode jdk_42_method_139_code 0 = .ok (.getstatic 38, 3) := by decide +kernel
theorem d1_3 : decode jdk_42_method_139_code 3 = .ok (.ifCond .eq 23, 3) := by decide +kernel
theorem d1_6 : decode jdk_42_method_139_code 6 = .ok (.iload_n 0, 1) := by decide +kernel
theorem d1_7 : decode jdk_42_method_139_code 7 = .ok (.invokestatic 1015, 3) := by decide +kernel
theorem w_8 (hw : OwnW a0 Z) : Cond.before (.code ⟨"java/lang/StringLatin1", "canEncode", "(C)Z"⟩ jdk_43_method_3_code (1 : Nat) (Option.some Jvm.ClassFile.FieldType.boolean)) a0 Z = true := wA hw 8 rfl
theorem w_5 (hw : OwnW a0 Z) : Cond.before (.methodLink "java/lang/String" (1015 : Nat) ⟨"java/lang/StringLatin1", "canEncode", "(C)Z"⟩) a0 Z = true := wA hw 5 rfl
theorem pd_33 : parseMethodDescriptor "(C)Z" = some ⟨[.char], some .boolean⟩ := by decide +kernel
theorem w_6 (hw : OwnW a0 Z) : Cond.before (.static ⟨"java/lang/StringLatin1", "canEncode", "(C)Z"⟩) a0 Z = true := wA hw 6 rfl
theorem b_20 (hw : OwnW a0 Z) : CallS "java/lang/String" 1015 (⟨"java/lang/StringLatin1", "canEncode", "(C)Z"⟩ : MethodName) jdk_43_method_3_code (1 : Nat) (Option.some Jvm.ClassFile.FieldType.boolean) a0 Z := ⟨(w_5 hw), (w_6 hw), (w_7 hw), (w_8 hw)⟩
theorem d1_10 : decode jdk_42_method_139_code 10 = .ok (.ifCond .eq 16, 3) := by decide +kernel
theorem d1_13 : decode jdk_42_method_139_code 13 = .ok (.new 10, 3) := by decide +kernel
theorem w_9 (hw : OwnW a0 Z) : Cond.before (.classLink "java/lang/String" (10 : Nat) "java/lang/String") a0 Z = true := wA hw 9 rfl
theorem d1_16 : decode jdk_42_method_139_code 16 = .ok (.dup, 1) := by decide +kernel
theorem d1_17 : decode jdk_42_method_139_code 17 = .ok (.iload_n 0, 1) := by decide +kernel
theorem d1_18 : decode jdk_42_method_139_code 18 = .ok (.invokestatic 1018, 3) := by decide +kernel
theorem w_13 (hw : OwnW a0 Z) : Cond.before (.code ⟨"java/lang/StringLatin1", "toBytes", "(C)[B"⟩ jdk_43_method_46_code (1 : Nat) (Option.some (Jvm.ClassFile.FieldType.array Jvm.ClassFile.FieldType.byte))) a0 Z = true := wA hw 13 rfl
theorem w_11 (hw : OwnW a0 Z) : Cond.before (.methodLink "java/lang/String" (1018 : Nat) ⟨"java/lang/StringLatin1", "toBytes", "(C)[B"⟩) a0 Z = true := wA hw 11 rfl
theorem pd_34 : parseMethodDescriptor "(C)[B" = some ⟨[.char], some (.array .byte)⟩ := by decide +kernel
theorem w_12 (hw : OwnW a0 Z) : Cond.before (.static ⟨"java/lang/StringLatin1", "toBytes", "(C)[B"⟩) a0 Z = true := wA hw 12 rfl
theorem d1_21 : decode jdk_42_method_139_code 21 = .ok (.iconst 0, 1) := by decide +kernel
theorem d1_22 : decode jdk_42_method_139_code 22 = .ok (.invokespecial 209, 3) := by decide +kernel
theorem w_18 (hw : OwnW a0 Z) : Cond.before (.code ⟨"java/lang/String", "<init>", "([BB)V"⟩ jdk_42_method_151_code (3 : Nat) (Option.none : Option Jvm.ClassFile.FieldType)) a0 Z = true := wA hw 18 rfl
theorem w_15 (hw : OwnW a0 Z) : Cond.before (.methodLink "java/lang/String" (209 : Nat) ⟨"java/lang/String", "<init>", "([BB)V"⟩) a0 Z = true := wA hw 15 rfl
theorem pd_35 : parseMethodDescriptor "([BB)V" = some ⟨[(.array .byte), .byte], none⟩ := by decide +kernel
theorem w_16 (hw : OwnW a0 Z) : Cond.before (.instanceMethod ⟨"java/lang/String", "<init>", "([BB)V"⟩) a0 Z = true := wA hw 16 rfl
theorem d1_25 : decode jdk_42_method_139_code 25 = .ok (.areturn, 1) := by decide +kernel
def Q1 (Z : State) (c1 : Int32) (cs1 : Int32) (h0 : Heap) (n0 : Nat) (v : Option Value) (h : Heap) (L : List Loc) : Prop := ∃ (o3 : Addr), v = some (.ref o3) ∧ Fr n0 L ∧ h0.size ≤ o3 ∧ Keep h0 h []
abbrev y1 : MethodName := (⟨"java/lang/String", "valueOf", "(C)Ljava/lang/String;"⟩ : MethodName)
theorem rm1 {c1 cs1 : Int32} (hw : OwnW a0 Z) (Z0 : n0 ≤ h0.size) (F0 : OSc Z h0 cs1) (la1 : ¬ (255 : Int32) < c1) (hcs : ¬ cs1 = (0 : Int32)) : OwnMF l Z y1 jdk_42_method_139_code 1 (some (.object "java/lang/String")) ws ⟨2, 2, 5, 27⟩ #[(.int c1)] h0 (Q1 Z c1 cs1 h0 n0) := by
  refine bo (plainFor_of_name pn_1) ?_
  intro p e s m below meth c T0 G C hnm hnamed X0 e0 K
  have N0 := Fr.nil n0
  refine Goes.to (congrArg T0.setTop (ef_1i m c1)) ?_
  have K00 := Keep.refl h0 []
  refine g_getS C X0 (w_4 hw) Via.refl e0 F0 d1_0 3 (fun T1 X1 e1 => ?_)
  refine g_if_eq C X1 d1_3 26 6 (fun hc3 => absurd hc3 hcs) (fun hc3 => ?_)
  refine g_iloadN C X1 d1_6 7 rfl ?_
  refine g_callS0 C X1 (b_20 hw) d1_7 [(.int c1)] [] 0 (rm2 hw Z0) N0 pd_33 e1 10 (fun T2 _ X2 N2 e2 => ?_)
  obtain ⟨r2, hr2⟩ : ∃ z : Int32, fCan c1 = z := ⟨_, rfl⟩
  rw [hr2]
  refine g_if_eq C X2 d1_10 26 13 (fun hc10 => absurd (hr2.symm.trans (own_can la1)) (by rw [hc10]; decide)) (fun hc10 => ?_)
  refine g_new C X2 (w_9 hw) (w_10 hw) (w_2 hw) e2 d1_13 16 (by decide) (by decide) (fun T3 h3 b3 X3 e3 g3 E3 A3 D3 => ?_)
  have gn_b3 : n0 ≤ b3 := Nat.le_trans Z0 (Nat.le_of_eq g3.symm)
  have Z3 := Nat.le_trans Z0 E3.1
  have sz_b3 : h0.size ≤ b3 := Nat.le_trans K00.1 (Nat.le_of_eq g3.symm)
  have K3 := K00.ext E3
  have f5 : OFv Z h3 b3 .null := D3 (Or.inr (w_23 hw)) (ty := (.array .byte)) (by decide)
  have f6 : OFc Z h3 b3 := D3 (Or.inr (w_25 hw)) (ty := .byte) (by decide)
  refine g_dup C X3 d1_16 17 rfl ?_
  refine g_iloadN C X3 d1_17 18 rfl ?_
  refine g_callS C X3 (w_11 hw) (w_12 hw) (w_7 hw) (w_13 hw) d1_18 [(.int c1)] [(.ref b3), (.ref b3)] 2 (rm3 hw Z3 ) pd_34 e3 21 (fun u7 T7 L7 X7 hQ7 => ?_)
  obtain ⟨o37, kd37, rfl, Nq7, szo37, Kq7, q7_0⟩ := hQ7
  have N7 := Fr.app N2 Nq7
  have f10 := A3.keep Kq7
  have f11 := f5.keep Kq7 nin0
  have f12 := f6.keep Kq7 nin0
  have Z7 := Nat.le_trans Z3 Kq7.1
  have K7 := K3.trans Kq7 all0
  refine ret1 ?_
  refine g_iconst C X7 d1_21 22 (v := 0) rfl ?_
  refine g_callI C X7 rfl (w_15 hw) (w_16 hw) (w_2 hw) (w_18 hw) d1_22 [(.ref o37), (.int 0)] [(.ref b3)] 1 (rm4 hw Z7 f10 f11 f12 gn_b3) pd_35 rfl 25 (fun u13 T13 L13 X13 hQ13 => ?_)
  obtain ⟨rfl, Nq13, Kq13, q13_0, q13_1, q13_2⟩ := hQ13
  have N13 := Fr.app N7 Nq13
  have K13 := K7.trans Kq13 (allS (Or.inr sz_b3) all0)
  refine ret0 ?_
  exact g_retA C X13 K rfl rfl rfl d1_25 (by decide) (by decide) rfl ⟨b3, rfl, N13, sz_b3, K13⟩
theorem ef_52rr (m : MethodId) (a1 : Addr) (a2 : Addr) : entryFrame m #[(.ref a1), (.ref a2)] 3 = mkF m 0 #[rv a1, rv a2, uu] [] := by first | (simp [entryFrame, mkF, argsToLocals, Value.category, iv, rv, jv, nv, uu, sd]; done) | rfl
theorem d52_0 : decode jdk_42_method_66_code 0 = .ok (.aload_n 0, 1) := by decide +kernel
theorem d52_1 : decode jdk_42_method_66_code 1 = .ok (.aload_n 1, 1) := by decide +kernel
theorem d52_2 : decode jdk_42_method_66_code 2 = .ok (.if_acmp .ne 5, 3) := by decide +kernel
theorem d52_5 : decode jdk_42_method_66_code 5 = .ok (.iconst 1, 1) := by decide +kernel
theorem d52_6 : decode jdk_42_method_66_code 6 = .ok (.ireturn, 1) := by decide +kernel
abbrev y52 : MethodName := (⟨"java/lang/String", "equals", "(Ljava/lang/Object;)Z"⟩ : MethodName)
theorem rm52 {o1 o2 : Addr} (hw : OwnW a0 Z) (Z0 : n0 ≤ h0.size) (hs : o1 = o2) : OwnMF l Z y52 jdk_42_method_66_code 3 (some .boolean) ws ⟨0, 0, 0, 0⟩ #[(.ref o1), (.ref o2)] h0 (OwnQ (some (.int 1)) h0 n0) := by
  refine bo (plainFor_of_name pn_1) ?_
  intro p e s m below meth c T0 G C hnm hnamed X0 e0 K
  have N0 := Fr.nil n0
  refine Goes.to (congrArg T0.setTop (ef_52rr m o1 o2)) ?_
  refine g_aloadN C X0 d52_0 1 rfl rfl ?_
  refine g_aloadN C X0 d52_1 2 rfl rfl ?_
  refine g_acmp_ne C X0 rfl rfl d52_2 7 5 (fun hc2 => absurd (congrArg Value.ref hs) hc2) (fun hc2 => ?_)
  refine g_iconst C X0 d52_5 6 (v := 1) rfl ?_
  exact g_retN C X0 K (by simp) d52_6 (by decide) (by decide) e0 ⟨rfl, N0, rfl⟩
def txT (l : List Int32) (x y : Int32) : List Int32 := (((([] ++ l) ++ [58]) ++ decI x) ++ [58]) ++ decI y
theorem own_na (x : Int32) : ¬ (255 : Int32) < (x &&& 255).toUInt32.toUInt16.toUInt32.toInt32 := (own_c255 x).2
theorem ixr (k : Nat) : Int32.ofNat k = Int32.ofNat k := rfl
theorem ef_0iiiiii (m : MethodId) (a1 : Int32) (a2 : Int32) (a3 : Int32) (a4 : Int32) (a5 : Int32) (a6 : Int32) : entryFrame m #[(.int a1), (.int a2), (.int a3), (.int a4), (.int a5), (.int a6)] maxLocals = mkF m 0 #[iv a1, iv a2, iv a3, iv a4, iv a5, iv a6, uu, uu, uu, uu, uu, uu, uu, uu, uu, uu, uu, uu, uu] [] := by first | (simp [entryFrame, mkF, argsToLocals, Value.category, iv, rv, jv, nv, uu, sd, maxLocals]; done) | rfl
theorem w_3 (hw : OwnW a0 Z) : Cond.before (.code ⟨"java/lang/String", "valueOf", "(C)Ljava/lang/String;"⟩ jdk_42_method_139_code (1 : Nat) (Option.some (Jvm.ClassFile.FieldType.object "java/lang/String"))) a0 Z = true := wA hw 3 rfl
theorem w_0 (hw : OwnW a0 Z) : Cond.before (.methodLink "com/example/mortise/mortise/core/ProblemLocationPinLaw" (7 : Nat) ⟨"java/lang/String", "valueOf", "(C)Ljava/lang/String;"⟩) a0 Z = true := wA hw 0 rfl
theorem pd_36 : parseMethodDescriptor "(C)Ljava/lang/String;" = some ⟨[.char], some (.object "java/lang/String")⟩ := by decide +kernel
theorem w_1 (hw : OwnW a0 Z) : Cond.before (.static ⟨"java/lang/String", "valueOf", "(C)Ljava/lang/String;"⟩) a0 Z = true := wA hw 1 rfl
theorem w_51 (hw : OwnW a0 Z) : Cond.before (.classLink "com/example/mortise/mortise/core/ProblemLocationPinLaw" (8 : Nat) "java/lang/String") a0 Z = true := wA hw 51 rfl
theorem w_52 (hw : OwnW a0 Z) : Cond.before (.arrayClass Jvm.ClassFile.FieldType.char) a0 Z = true := wA hw 52 rfl
theorem w_55 (hw : OwnW a0 Z) : Cond.before (.code ⟨"java/lang/String", "<init>", "([C)V"⟩ jdk_42_method_3_code (2 : Nat) (Option.none : Option Jvm.ClassFile.FieldType)) a0 Z = true := wA hw 55 rfl
theorem w_53 (hw : OwnW a0 Z) : Cond.before (.methodLink "com/example/mortise/mortise/core/ProblemLocationPinLaw" (13 : Nat) ⟨"java/lang/String", "<init>", "([C)V"⟩) a0 Z = true := wA hw 53 rfl
theorem pd_37 : parseMethodDescriptor "([C)V" = some ⟨[(.array .char)], none⟩ := by decide +kernel
theorem w_54 (hw : OwnW a0 Z) : Cond.before (.instanceMethod ⟨"java/lang/String", "<init>", "([C)V"⟩) a0 Z = true := wA hw 54 rfl
theorem w_26 (hw : OwnW a0 Z) : Cond.before (.classLink "com/example/mortise/mortise/core/ProblemLocationPinLaw" (16 : Nat) "com/example/mortise/mortise/core/Problem") a0 Z = true := wA hw 26 rfl
theorem w_28 (hw : OwnW a0 Z) : Cond.before (.initialized "com/example/mortise/mortise/core/Problem") a0 Z = true := wA hw 28 rfl
theorem w_31 (hw : OwnW a0 Z) : Cond.before (.code ⟨"com/example/mortise/mortise/core/Problem", "<init>", "(Ljava/lang/String;IILjava/lang/String;)V"⟩ prog_7_method_1_code (5 : Nat) (Option.none : Option Jvm.ClassFile.FieldType)) a0 Z = true := wA hw 31 rfl
theorem w_29 (hw : OwnW a0 Z) : Cond.before (.methodLink "com/example/mortise/mortise/core/ProblemLocationPinLaw" (18 : Nat) ⟨"com/example/mortise/mortise/core/Problem", "<init>", "(Ljava/lang/String;IILjava/lang/String;)V"⟩) a0 Z = true := wA hw 29 rfl
theorem pd_38 : parseMethodDescriptor "(Ljava/lang/String;IILjava/lang/String;)V" = some ⟨[(.object "java/lang/String"), .int, .int, (.object "java/lang/String")], none⟩ := by decide +kernel
theorem w_30 (hw : OwnW a0 Z) : Cond.before (.instanceMethod ⟨"com/example/mortise/mortise/core/Problem", "<init>", "(Ljava/lang/String;IILjava/lang/String;)V"⟩) a0 Z = true := wA hw 30 rfl
theorem w_50 (hw : OwnW a0 Z) : Cond.before (.code ⟨"com/example/mortise/mortise/core/Problem", "location", "()Ljava/lang/String;"⟩ prog_7_method_4_code (1 : Nat) (Option.some (Jvm.ClassFile.FieldType.object "java/lang/String"))) a0 Z = true := wA hw 50 rfl
theorem w_46 (hw : OwnW a0 Z) : Cond.before (.methodLink "com/example/mortise/mortise/core/ProblemLocationPinLaw" (21 : Nat) ⟨"com/example/mortise/mortise/core/Problem", "location", "()Ljava/lang/String;"⟩) a0 Z = true := wA hw 46 rfl
theorem w_47 (hw : OwnW a0 Z) : Cond.before (.declares ⟨"com/example/mortise/mortise/core/Problem", "location", "()Ljava/lang/String;"⟩) a0 Z = true := wA hw 47 rfl
theorem w_49 (hw : OwnW a0 Z) : Cond.before (.selects "com/example/mortise/mortise/core/Problem" ⟨"com/example/mortise/mortise/core/Problem", "location", "()Ljava/lang/String;"⟩ ⟨"com/example/mortise/mortise/core/Problem", "location", "()Ljava/lang/String;"⟩) a0 Z = true := wA hw 49 rfl
theorem w_48 (hw : OwnW a0 Z) : Cond.before (.instanceMethod ⟨"com/example/mortise/mortise/core/Problem", "location", "()Ljava/lang/String;"⟩) a0 Z = true := wA hw 48 rfl
theorem b_21 (hw : OwnW a0 Z) : CallV "com/example/mortise/mortise/core/ProblemLocationPinLaw" 21 (⟨"com/example/mortise/mortise/core/Problem", "location", "()Ljava/lang/String;"⟩ : MethodName) "com/example/mortise/mortise/core/Problem" prog_7_method_4_code (1 : Nat) (Option.some (Jvm.ClassFile.FieldType.object "java/lang/String")) a0 Z := ⟨(w_46 hw), (w_47 hw), (w_49 hw), (w_48 hw), (w_50 hw), (w_28 hw)⟩
theorem w_268 (hw : OwnW a0 Z) : Cond.before (.code ⟨"java/lang/String", "equals", "(Ljava/lang/Object;)Z"⟩ jdk_42_method_66_code (3 : Nat) (Option.some Jvm.ClassFile.FieldType.boolean)) a0 Z = true := wA hw 268 rfl
theorem w_264 (hw : OwnW a0 Z) : Cond.before (.methodLink "com/example/mortise/mortise/core/ProblemLocationPinLaw" (25 : Nat) ⟨"java/lang/String", "equals", "(Ljava/lang/Object;)Z"⟩) a0 Z = true := wA hw 264 rfl
theorem pd_39 : parseMethodDescriptor "(Ljava/lang/Object;)Z" = some ⟨[(.object "java/lang/Object")], some .boolean⟩ := by decide +kernel
theorem w_265 (hw : OwnW a0 Z) : Cond.before (.declares ⟨"java/lang/String", "equals", "(Ljava/lang/Object;)Z"⟩) a0 Z = true := wA hw 265 rfl
theorem w_267 (hw : OwnW a0 Z) : Cond.before (.selects "java/lang/String" ⟨"java/lang/String", "equals", "(Ljava/lang/Object;)Z"⟩ ⟨"java/lang/String", "equals", "(Ljava/lang/Object;)Z"⟩) a0 Z = true := wA hw 267 rfl
theorem w_266 (hw : OwnW a0 Z) : Cond.before (.instanceMethod ⟨"java/lang/String", "equals", "(Ljava/lang/Object;)Z"⟩) a0 Z = true := wA hw 266 rfl
theorem b_22 (hw : OwnW a0 Z) : CallV "com/example/mortise/mortise/core/ProblemLocationPinLaw" 25 (⟨"java/lang/String", "equals", "(Ljava/lang/Object;)Z"⟩ : MethodName) "java/lang/String" jdk_42_method_66_code (3 : Nat) (Option.some Jvm.ClassFile.FieldType.boolean) a0 Z := ⟨(w_264 hw), (w_265 hw), (w_267 hw), (w_266 hw), (w_268 hw), (w_2 hw)⟩
theorem w_194 (hw : OwnW a0 Z) : Cond.before (.code ⟨"com/example/mortise/mortise/core/ProblemLocationPinLaw", "put", "([CII)I"⟩ method_6_code (7 : Nat) (Option.some Jvm.ClassFile.FieldType.int)) a0 Z = true := wA hw 194 rfl
theorem w_191 (hw : OwnW a0 Z) : Cond.before (.methodLink "com/example/mortise/mortise/core/ProblemLocationPinLaw" (29 : Nat) ⟨"com/example/mortise/mortise/core/ProblemLocationPinLaw", "put", "([CII)I"⟩) a0 Z = true := wA hw 191 rfl
theorem pd_40 : parseMethodDescriptor "([CII)I" = some ⟨[(.array .char), .int, .int], some .int⟩ := by decide +kernel
theorem w_192 (hw : OwnW a0 Z) : Cond.before (.static ⟨"com/example/mortise/mortise/core/ProblemLocationPinLaw", "put", "([CII)I"⟩) a0 Z = true := wA hw 192 rfl
theorem w_211 (hw : OwnW a0 Z) : Cond.before (.methodLink "com/example/mortise/mortise/core/ProblemLocationPinLaw" (35 : Nat) ⟨"java/lang/String", "length", "()I"⟩) a0 Z = true := wA hw 211 rfl
theorem b_23 (hw : OwnW a0 Z) : CallV "com/example/mortise/mortise/core/ProblemLocationPinLaw" 35 (⟨"java/lang/String", "length", "()I"⟩ : MethodName) "java/lang/String" jdk_42_method_54_code (1 : Nat) (Option.some Jvm.ClassFile.FieldType.int) a0 Z := ⟨(w_211 hw), (w_91 hw), (w_93 hw), (w_92 hw), (w_94 hw), (w_2 hw)⟩
theorem w_214 (hw : OwnW a0 Z) : Cond.before (.code ⟨"com/example/mortise/mortise/core/ProblemLocationPinLaw", "at", "(Ljava/lang/String;[CII)Z"⟩ method_3_code (4 : Nat) (Option.some Jvm.ClassFile.FieldType.boolean)) a0 Z = true := wA hw 214 rfl
theorem w_212 (hw : OwnW a0 Z) : Cond.before (.methodLink "com/example/mortise/mortise/core/ProblemLocationPinLaw" (39 : Nat) ⟨"com/example/mortise/mortise/core/ProblemLocationPinLaw", "at", "(Ljava/lang/String;[CII)Z"⟩) a0 Z = true := wA hw 212 rfl
theorem pd_41 : parseMethodDescriptor "(Ljava/lang/String;[CII)Z" = some ⟨[(.object "java/lang/String"), (.array .char), .int, .int], some .boolean⟩ := by decide +kernel
theorem w_213 (hw : OwnW a0 Z) : Cond.before (.static ⟨"com/example/mortise/mortise/core/ProblemLocationPinLaw", "at", "(Ljava/lang/String;[CII)Z"⟩) a0 Z = true := wA hw 213 rfl
theorem b_24 (hw : OwnW a0 Z) : CallS "com/example/mortise/mortise/core/ProblemLocationPinLaw" 39 (⟨"com/example/mortise/mortise/core/ProblemLocationPinLaw", "at", "(Ljava/lang/String;[CII)Z"⟩ : MethodName) method_3_code (4 : Nat) (Option.some Jvm.ClassFile.FieldType.boolean) a0 Z := ⟨(w_212 hw), (w_213 hw), (w_193 hw), (w_214 hw)⟩
def Q0 (Z : State) (p0 : Int32) (p1 : Int32) (p2 : Int32) (p3 : Int32) (p4 : Int32) (p5 : Int32) (cs1 : Int32) (wf1 : Value) (o7 o8 : Addr) (kd7 kd8 : ClassId) (h0 : Heap) (n0 : Nat) (v : Option Value) (h : Heap) (L : List Loc) : Prop := v = some (.int 1) ∧ Fr n0 L
set_option maxRecDepth 65536 in
set_option maxHeartbeats 40000000 in
theorem rm0 (l : Launch) (Z : State) (a0 : Array Value) (hw : ∀ d ∈ tables_1, d.before a0 Z = true) (ws : List Jvm.Cond) (p0 : Int32) (p1 : Int32) (p2 : Int32) (p3 : Int32) (p4 : Int32) (p5 : Int32) (cs1 : Int32) (wf1 : Value) (o7 o8 : Addr) (kd7 kd8 : ClassId) (h0 : Heap) (n0 : Nat) (Z0 : n0 ≤ h0.size) (hEL : EW Z a0 EL) (F0 : OSc Z h0 cs1) (F1 : OSf Z h0 wf1) (F2 : Sta Z h0 "java/lang/Integer" "DigitOnes" "[B" (.ref o7)) (F3 : Sta Z h0 "java/lang/Integer" "DigitTens" "[B" (.ref o8)) (F4 : Arv Z h0 o7 kd7 .byte (Int32.ofNat 100) (onesL.map Value.int) (.int 0)) (F5 : Arv Z h0 o8 kd8 .byte (Int32.ofNat 100) (tensL.map Value.int) (.int 0)) (hcs : ¬ cs1 = (0 : Int32)) (hwf : wf1.isRef = true) :
    OwnMFH l Z EL x code maxLocals ret ws room_1 #[(.int p0), (.int p1), (.int p2), (.int p3), (.int p4), (.int p5)] h0 (Q0 Z p0 p1 p2 p3 p4 p5 cs1 wf1 o7 o8 kd7 kd8 h0 n0) := by
  refine body_ofH (y := x) (Q := Q0 Z p0 p1 p2 p3 p4 p5 cs1 wf1 o7 o8 kd7 kd8 h0 n0) (plainFor_of_name pn_0) ?_
  intro p e s m below meth c T0 G C hnm hnamed X0 e0 hh0 hS0 H0_ R0_ K
  have N0 := Fr.nil n0
  refine Goes.to (congrArg T0.setTop (ef_0iiiiii m p0 p1 p2 p3 p4 p5)) ?_
  refine g_iloadN C X0 at_0 1 rfl ?_
  refine g_iconst C X0 at_1 2 (v := 3) rfl ?_
  refine g_iand C X0 at_2 3 ?_
  obtain ⟨k6, hk6⟩ : ∃ z : Int32, (p0 &&& (3 : Int32)) = z := ⟨_, rfl⟩
  rw [hk6]
  refine g_istore C X0 at_3 5 (w := k6) rfl (ls' := #[iv p0, iv p1, iv p2, iv p3, iv p4, iv p5, iv k6, uu, uu, uu, uu, uu, uu, uu, uu, uu, uu, uu, uu]) rfl ?_
  refine g_iloadN C X0 at_5 6 rfl ?_
  refine g_iconst C X0 at_6 7 (v := 2) rfl ?_
  refine g_iushr C X0 at_7 8 ?_
  refine g_bipush C X0 at_8 10 (v := 7) rfl ?_
  refine g_iand C X0 at_10 11 ?_
  refine g_if_ne C X0 at_11 18 14 (fun hc11 => ?_) (fun hc11 => ?_)
  · refine g_iconst C X0 at_18 19 (v := 0) rfl ?_
    refine g_istore C X0 at_19 21 (w := 0) rfl (ls' := #[iv p0, iv p1, iv p2, iv p3, iv p4, iv p5, iv k6, iv 0, uu, uu, uu, uu, uu, uu, uu, uu, uu, uu, uu]) rfl ?_
    refine g_iloadN C X0 at_21 22 rfl ?_
    refine g_iconst C X0 at_22 23 (v := 5) rfl ?_
    refine g_iushr C X0 at_23 24 ?_
    refine g_iconst C X0 at_24 25 (v := 1) rfl ?_
    refine g_iand C X0 at_25 26 ?_
    have j34 : ∀ z8 : Int32, Goes p.tables e below G (T0.setTop (mkF m 34 #[iv p0, iv p1, iv p2, iv p3, iv p4, iv p5, iv k6, iv 0, uu, uu, uu, uu, uu, uu, uu, uu, uu, uu, uu] [(.int z8)])) := by
      intro z8
      refine g_istore C X0 at_34 36 (w := z8) rfl (ls' := #[iv p0, iv p1, iv p2, iv p3, iv p4, iv p5, iv k6, iv 0, iv z8, uu, uu, uu, uu, uu, uu, uu, uu, uu, uu]) rfl ?_
      refine g_iloadN C X0 at_36 37 rfl ?_
      refine g_sipush C X0 at_37 40 (v := 255) rfl ?_
      refine g_iand C X0 at_40 41 ?_
      refine g_i2c C X0 at_41 42 ?_
      refine g_istore C X0 at_42 44 (w := (p1 &&& (255 : Int32)).toUInt32.toUInt16.toUInt32.toInt32) rfl (ls' := #[iv p0, iv p1, iv p2, iv p3, iv p4, iv p5, iv k6, iv 0, iv z8, iv (p1 &&& (255 : Int32)).toUInt32.toUInt16.toUInt32.toInt32, uu, uu, uu, uu, uu, uu, uu, uu, uu]) rfl ?_
      refine g_iloadN C X0 at_44 45 rfl ?_
      refine g_sipush C X0 at_45 48 (v := 255) rfl ?_
      refine g_iand C X0 at_48 49 ?_
      refine g_i2c C X0 at_49 50 ?_
      refine g_istore C X0 at_50 52 (w := (p2 &&& (255 : Int32)).toUInt32.toUInt16.toUInt32.toInt32) rfl (ls' := #[iv p0, iv p1, iv p2, iv p3, iv p4, iv p5, iv k6, iv 0, iv z8, iv (p1 &&& (255 : Int32)).toUInt32.toUInt16.toUInt32.toInt32, iv (p2 &&& (255 : Int32)).toUInt32.toUInt16.toUInt32.toInt32, uu, uu, uu, uu, uu, uu, uu, uu]) rfl ?_
      refine g_iloadN C X0 at_52 53 rfl ?_
      refine g_sipush C X0 at_53 56 (v := 255) rfl ?_
      refine g_iand C X0 at_56 57 ?_
      refine g_i2c C X0 at_57 58 ?_
      refine g_istore C X0 at_58 60 (w := (p3 &&& (255 : Int32)).toUInt32.toUInt16.toUInt32.toInt32) rfl (ls' := #[iv p0, iv p1, iv p2, iv p3, iv p4, iv p5, iv k6, iv 0, iv z8, iv (p1 &&& (255 : Int32)).toUInt32.toUInt16.toUInt32.toInt32, iv (p2 &&& (255 : Int32)).toUInt32.toUInt16.toUInt32.toInt32, iv (p3 &&& (255 : Int32)).toUInt32.toUInt16.toUInt32.toInt32, uu, uu, uu, uu, uu, uu, uu]) rfl ?_
      refine g_iloadN C X0 at_60 61 rfl ?_
      refine g_bipush C X0 at_61 63 (v := 8) rfl ?_
      refine g_iushr C X0 at_63 64 ?_
      refine g_sipush C X0 at_64 67 (v := 255) rfl ?_
      refine g_iand C X0 at_67 68 ?_
      refine g_i2c C X0 at_68 69 ?_
      refine g_callS C X0 (w_0 hw) (w_1 hw) (w_2 hw) (w_3 hw) at_69 [(.int ((XT.ushr p1 (8 : Int32)) &&& (255 : Int32)).toUInt32.toUInt16.toUInt32.toInt32)] [] 0 (rm1 hw Z0 F0 (own_na _) hcs) pd_36 e0 72 (fun u1 T1 L1 X1 hQ1 => ?_)
      obtain ⟨o31, rfl, Nq1, szo31, Kq1⟩ := hQ1
      have N1 := Fr.app N0 Nq1
      have f4 := Sta.keepN F0 Kq1 all0
      have f5 := Sta.keepN F1 Kq1 all0
      have f6 := Sta.keepN F2 Kq1 all0
      have f7 := Sta.keepN F3 Kq1 all0
      have f8 := F4.keep Kq1 nin0
      have f9 := F5.keep Kq1 nin0
      have Z1 := Nat.le_trans Z0 Kq1.1
      have hk1 := Nat.le_trans (Nat.zero_le _) Kq1.1
      have H_1 := CHv.keep Kq1 all0 H0_
      have R_1 := R0_.trans (CHr.keep Kq1 all0 H0_)
      refine ret1 ?_
      refine g_astore C X1 at_72 74 rfl (ls' := #[iv p0, iv p1, iv p2, iv p3, iv p4, iv p5, iv k6, iv 0, iv z8, iv (p1 &&& (255 : Int32)).toUInt32.toUInt16.toUInt32.toInt32, iv (p2 &&& (255 : Int32)).toUInt32.toUInt16.toUInt32.toInt32, iv (p3 &&& (255 : Int32)).toUInt32.toUInt16.toUInt32.toInt32, rv o31, uu, uu, uu, uu, uu, uu]) rfl ?_
      refine g_iload C X1 at_74 76 rfl ?_
      refine g_if_eq C X1 at_76 85 79 (fun hc76 => ?_) (fun hc76 => absurd hc76 (by decide))
      rcases own_r4 hk6 with hsp | hsp | hsp | hsp
      · subst hsp
        refine g_iload C X1 at_85 87 rfl ?_
        refine g_if_ne C X1 at_87 105 90 (fun hc87 => absurd hc87 (by decide)) (fun hc87 => ?_)
        refine g_new C X1 (w_51 hw) (w_10 hw) (w_2 hw) rfl at_90 93 (by decide) (by decide) (fun T10 h10 b10 X10 e10 g10 E10 A10 D10 => ?_)
        have n11 : o7 ≠ b10 := Nat.ne_of_lt (Nat.lt_of_lt_of_eq f8.lt g10.symm)
        have n12 : o8 ≠ b10 := Nat.ne_of_lt (Nat.lt_of_lt_of_eq f9.lt g10.symm)
        have f13 := f4.ext E10
        have f14 := f5.ext E10
        have f15 := f6.ext E10
        have f16 := f7.ext E10
        have f17 := f8.ext E10
        have f18 := f9.ext E10
        have gn_b10 : n0 ≤ b10 := Nat.le_trans Z1 (Nat.le_of_eq g10.symm)
        have Z10 := Nat.le_trans Z1 E10.1
        have hk10 := Nat.le_trans hk1 E10.1
        have H_10 := H_1.ext E10
        have R_10 := R_1.trans (CHr.ext E10 H_1)
        have f19 : OFv Z h10 b10 .null := D10 (Or.inr (w_23 hw)) (ty := (.array .byte)) (by decide)
        have f20 : OFc Z h10 b10 := D10 (Or.inr (w_25 hw)) (ty := .byte) (by decide)
        refine g_dup C X10 at_93 94 rfl ?_
        refine g_iconst C X10 at_94 95 (v := 0) rfl ?_
        refine g_newA (aty := .char) (n := (0 : Int32)) C X10 (cap := 0) (w_52 hw) e10 at_95 97 (by decide) (by decide) (by decide) (by decide) (by decide) (fun T21 h21 b21 ki21 X21 e21 g21 E21 A21 => ?_)
        have n22 : b10 ≠ b21 := Nat.ne_of_lt (Nat.lt_of_lt_of_eq A10.lt g21.symm)
        have f25 := f13.ext E21
        have f26 := f14.ext E21
        have f27 := f15.ext E21
        have f28 := f16.ext E21
        have f29 := f17.ext E21
        have f30 := f18.ext E21
        have f31 := A10.ext E21
        have f32 := f19.ext E21
        have f33 := f20.ext E21
        have Z21 := Nat.le_trans Z10 E21.1
        have hk21 := Nat.le_trans hk10 E21.1
        have H_21 := H_10.ext E21
        have R_21 := R_10.trans (CHr.ext E21 H_10)
        have f34 : Arv Z h21 b21 ki21 .char 0 [] (.int 0) := A21
        refine g_callIH C X21 hS0 hk21 hEL H_21 rfl (w_53 hw) (w_54 hw) (w_2 hw) (w_55 hw) at_97 [(.ref b21)] [(.ref b10)] 1 (rm9_0 hw Z21 hEL f31 f32 f33 f34 gn_b10 n22) pd_37 e21 100 (fun u35 T35 L35 C35 X35 hQ35 hS35 A35 => ?_)
        obtain ⟨o335, kd335, rfl, Nq35, Kq35, q35_0, q35_1, q35_2, q35_3⟩ := hQ35
        have N35 := Fr.app N1 Nq35
        have f36 := Sta.keepN f25 Kq35 (allS (Exa.ns f31) all0)
        have f37 := Sta.keepN f26 Kq35 (allS (Exa.ns f31) all0)
        have f38 := Sta.keepN f27 Kq35 (allS (Exa.ns f31) all0)
        have f39 := Sta.keepN f28 Kq35 (allS (Exa.ns f31) all0)
        have f40 := f29.keep Kq35 (ninS n11 nin0)
        have f41 := f30.keep Kq35 (ninS n12 nin0)
        have Z35 := Nat.le_trans Z21 Kq35.1
        have H_35 := A35.1
        have R_35 := R_21.trans A35
        refine ret0 ?_
        refine g_astore C35 X35 at_100 102 rfl (ls' := #[iv p0, iv p1, iv p2, iv p3, iv p4, iv p5, iv 0, iv 0, iv z8, iv (p1 &&& (255 : Int32)).toUInt32.toUInt16.toUInt32.toInt32, iv (p2 &&& (255 : Int32)).toUInt32.toUInt16.toUInt32.toInt32, iv (p3 &&& (255 : Int32)).toUInt32.toUInt16.toUInt32.toInt32, rv o31, rv b10, uu, uu, uu, uu, uu]) rfl ?_
        refine g_goto C35 X35 at_102 189 ?_
        obtain ⟨q5, e5, h5⟩ : ∃ l : List Int32, l = [] ∧ l.length ≤ 4 := ⟨_, rfl, Nat.le_of_ble_eq_true rfl⟩
        have yq5 : Arv Z T35.heap o335 kd335 .byte (Int32.ofNat q5.length) (q5.map Value.int) (.int 0) := by rw [e5]; exact q35_3
        refine g_iload C35 X35 at_189 191 rfl ?_
        have j200 : ∀ ln1 : Int32, Goes p.tables e below G (T35.setTop (mkF m 200 #[iv p0, iv p1, iv p2, iv p3, iv p4, iv p5, iv 0, iv 0, iv z8, iv (p1 &&& (255 : Int32)).toUInt32.toUInt16.toUInt32.toInt32, iv (p2 &&& (255 : Int32)).toUInt32.toUInt16.toUInt32.toInt32, iv (p3 &&& (255 : Int32)).toUInt32.toUInt16.toUInt32.toInt32, rv o31, rv b10, uu, uu, uu, uu, uu] [(.int ln1)])) := by
          intro ln1
          refine g_istore C35 X35 at_200 202 (w := ln1) rfl (ls' := #[iv p0, iv p1, iv p2, iv p3, iv p4, iv p5, iv 0, iv 0, iv z8, iv (p1 &&& (255 : Int32)).toUInt32.toUInt16.toUInt32.toInt32, iv (p2 &&& (255 : Int32)).toUInt32.toUInt16.toUInt32.toInt32, iv (p3 &&& (255 : Int32)).toUInt32.toUInt16.toUInt32.toInt32, rv o31, rv b10, iv ln1, uu, uu, uu, uu]) rfl ?_
          by_cases hz : ln1 = (0 : Int32)
          · refine g_new C35 X35 (w_26 hw) (w_27 hw) (w_28 hw) rfl at_202 205 (by decide) (by decide) (fun T44 h44 b44 X44 e44 g44 E44 A44 D44 => ?_)
            have f55 := q35_0.ext E44
            have gn_b44 : n0 ≤ b44 := Nat.le_trans Z35 (Nat.le_of_eq g44.symm)
            have Z44 := Nat.le_trans Z35 E44.1
            have hk44 := Nat.le_trans (Nat.le_refl _) E44.1
            have H_44 := H_35.ext E44
            have R_44 := R_35.trans (CHr.ext E44 H_35)
            have f59 : Fld Z h44 b44 "com/example/mortise/mortise/core/Problem" "path" "Ljava/lang/String;" .null := D44 (Or.inr (w_39 hw)) (ty := (.object "java/lang/String")) (by decide)
            have f60 : Fld Z h44 b44 "com/example/mortise/mortise/core/Problem" "line" "I" (.int 0) := D44 (Or.inr (w_41 hw)) (ty := .int) (by decide)
            have f61 : Fld Z h44 b44 "com/example/mortise/mortise/core/Problem" "column" "I" (.int 0) := D44 (Or.inr (w_43 hw)) (ty := .int) (by decide)
            have f62 : Fld Z h44 b44 "com/example/mortise/mortise/core/Problem" "message" "Ljava/lang/String;" .null := D44 (Or.inr (w_45 hw)) (ty := (.object "java/lang/String")) (by decide)
            refine g_dup C35 X44 at_205 206 rfl ?_
            refine g_aload C35 X44 at_206 208 rfl rfl ?_
            refine g_iload C35 X44 at_208 210 rfl ?_
            refine g_iload C35 X44 at_210 212 rfl ?_
            refine g_aload C35 X44 at_212 214 rfl rfl ?_
            refine g_callI C35 X44 rfl (w_29 hw) (w_30 hw) (w_28 hw) (w_31 hw) at_214 [(.ref b10), (.int ln1), (.int p5), (.ref o31)] [(.ref b44)] 1 (rm6 hw Z44 A44 f59 f60 f61 f62 gn_b44) pd_38 e44 217 (fun u63 T63 L63 X63 hQ63 => ?_)
            obtain ⟨rfl, Nq63, Kq63, q63_0, q63_1, q63_2, q63_3⟩ := hQ63
            have N63 := Fr.app N35 Nq63
            have f70 := f55.keep Kq63
            have Z63 := Nat.le_trans Z44 Kq63.1
            have hk63 := Nat.le_trans hk44 Kq63.1
            have H_63 := CHv.keep Kq63 (allS (Safe.exa C35.2.1.alike A44 (by decide) (by decide)) all0) H_44
            have R_63 := R_44.trans (CHr.keep Kq63 (allS (Safe.exa C35.2.1.alike A44 (by decide) (by decide)) all0) H_44)
            refine ret0 ?_
            refine g_astore C35 X63 at_217 219 rfl (ls' := #[iv p0, iv p1, iv p2, iv p3, iv p4, iv p5, iv 0, iv 0, iv z8, iv (p1 &&& (255 : Int32)).toUInt32.toUInt16.toUInt32.toInt32, iv (p2 &&& (255 : Int32)).toUInt32.toUInt16.toUInt32.toInt32, iv (p3 &&& (255 : Int32)).toUInt32.toUInt16.toUInt32.toInt32, rv o31, rv b10, iv ln1, rv b44, uu, uu, uu]) rfl ?_
            refine g_aload C35 X63 at_219 221 rfl rfl ?_
            refine g_callV0 C35 X63 (b_21 hw) q63_0 at_221 [] [] 0 (rm8_z hw Z63 q63_1 q63_2 q63_3 hz) N63 pd_23 rfl 224 (fun T75 _ X75 N75 e75 => ?_)
            refine g_astore C35 X75 at_224 226 rfl (ls' := #[iv p0, iv p1, iv p2, iv p3, iv p4, iv p5, iv 0, iv 0, iv z8, iv (p1 &&& (255 : Int32)).toUInt32.toUInt16.toUInt32.toInt32, iv (p2 &&& (255 : Int32)).toUInt32.toUInt16.toUInt32.toInt32, iv (p3 &&& (255 : Int32)).toUInt32.toUInt16.toUInt32.toInt32, rv o31, rv b10, iv ln1, rv b44, rv b10, uu, uu]) rfl ?_
            refine g_iload C35 X75 at_226 228 rfl ?_
            refine g_if_ne C35 X75 at_228 257 231 (fun hc228 => absurd hz hc228) (fun hc228 => ?_)
            refine g_aload C35 X75 at_231 233 rfl rfl ?_
            refine g_ifnonnullY C35 X75 at_233 249 ?_
            refine g_aload C35 X75 at_249 251 rfl rfl ?_
            refine g_aload C35 X75 at_251 253 rfl rfl ?_
            refine g_callV0 C35 X75 (b_22 hw) f70 at_253 [(.ref b10)] [] 0 (rm52 hw Z63 rfl) N75 pd_39 e75 256 (fun T76 _ X76 N76 e76 => ?_)
            exact g_retNH C35 X76 K hS35 hk63 hEL H_63 R_63 (by simp) at_256 (by decide) (by decide) e76 ⟨rfl, N76⟩
          · refine g_new C35 X35 (w_26 hw) (w_27 hw) (w_28 hw) rfl at_202 205 (by decide) (by decide) (fun T77 h77 b77 X77 e77 g77 E77 A77 D77 => ?_)
            have n78 : b10 ≠ b77 := Nat.ne_of_lt (Nat.lt_of_lt_of_eq q35_0.lt g77.symm)
            have n79 : o335 ≠ b77 := Nat.ne_of_lt (Nat.lt_of_lt_of_eq yq5.lt g77.symm)
            have n80 : o7 ≠ b77 := Nat.ne_of_lt (Nat.lt_of_lt_of_eq f40.lt g77.symm)
            have n81 : o8 ≠ b77 := Nat.ne_of_lt (Nat.lt_of_lt_of_eq f41.lt g77.symm)
            have f82 := f36.ext E77
            have f83 := f37.ext E77
            have f84 := f38.ext E77
            have f85 := f39.ext E77
            have f86 := f40.ext E77
            have f87 := f41.ext E77
            have f88 := q35_0.ext E77
            have f89 := q35_1.ext E77
            have f90 := q35_2.ext E77
            have f91 := yq5.ext E77
            have gn_b77 : n0 ≤ b77 := Nat.le_trans Z35 (Nat.le_of_eq g77.symm)
            have Z77 := Nat.le_trans Z35 E77.1
            have hk77 := Nat.le_trans (Nat.le_refl _) E77.1
            have H_77 := H_35.ext E77
            have R_77 := R_35.trans (CHr.ext E77 H_35)
            have f92 : Fld Z h77 b77 "com/example/mortise/mortise/core/Problem" "path" "Ljava/lang/String;" .null := D77 (Or.inr (w_39 hw)) (ty := (.object "java/lang/String")) (by decide)
            have f93 : Fld Z h77 b77 "com/example/mortise/mortise/core/Problem" "line" "I" (.int 0) := D77 (Or.inr (w_41 hw)) (ty := .int) (by decide)
            have f94 : Fld Z h77 b77 "com/example/mortise/mortise/core/Problem" "column" "I" (.int 0) := D77 (Or.inr (w_43 hw)) (ty := .int) (by decide)
            have f95 : Fld Z h77 b77 "com/example/mortise/mortise/core/Problem" "message" "Ljava/lang/String;" .null := D77 (Or.inr (w_45 hw)) (ty := (.object "java/lang/String")) (by decide)
            refine g_dup C35 X77 at_205 206 rfl ?_
            refine g_aload C35 X77 at_206 208 rfl rfl ?_
            refine g_iload C35 X77 at_208 210 rfl ?_
            refine g_iload C35 X77 at_210 212 rfl ?_
            refine g_aload C35 X77 at_212 214 rfl rfl ?_
            refine g_callI C35 X77 rfl (w_29 hw) (w_30 hw) (w_28 hw) (w_31 hw) at_214 [(.ref b10), (.int ln1), (.int p5), (.ref o31)] [(.ref b77)] 1 (rm6 hw Z77 A77 f92 f93 f94 f95 gn_b77) pd_38 e77 217 (fun u96 T96 L96 X96 hQ96 => ?_)
            obtain ⟨rfl, Nq96, Kq96, q96_0, q96_1, q96_2, q96_3⟩ := hQ96
            have N96 := Fr.app N35 Nq96
            have f97 := Sta.keepN f82 Kq96 (allS (Exa.ns A77) all0)
            have f98 := Sta.keepN f83 Kq96 (allS (Exa.ns A77) all0)
            have f99 := Sta.keepN f84 Kq96 (allS (Exa.ns A77) all0)
            have f100 := Sta.keepN f85 Kq96 (allS (Exa.ns A77) all0)
            have f101 := f86.keep Kq96 (ninS n80 nin0)
            have f102 := f87.keep Kq96 (ninS n81 nin0)
            have f103 := f88.keep Kq96
            have f104 := f89.keep Kq96 (ninS n78 nin0)
            have f105 := f90.keep Kq96 (ninS n78 nin0)
            have f106 := f91.keep Kq96 (ninS n79 nin0)
            have Z96 := Nat.le_trans Z77 Kq96.1
            have hk96 := Nat.le_trans hk77 Kq96.1
            have H_96 := CHv.keep Kq96 (allS (Safe.exa C35.2.1.alike A77 (by decide) (by decide)) all0) H_77
            have R_96 := R_77.trans (CHr.keep Kq96 (allS (Safe.exa C35.2.1.alike A77 (by decide) (by decide)) all0) H_77)
            refine ret0 ?_
            refine g_astore C35 X96 at_217 219 rfl (ls' := #[iv p0, iv p1, iv p2, iv p3, iv p4, iv p5, iv 0, iv 0, iv z8, iv (p1 &&& (255 : Int32)).toUInt32.toUInt16.toUInt32.toInt32, iv (p2 &&& (255 : Int32)).toUInt32.toUInt16.toUInt32.toInt32, iv (p3 &&& (255 : Int32)).toUInt32.toUInt16.toUInt32.toInt32, rv o31, rv b10, iv ln1, rv b77, uu, uu, uu]) rfl ?_
            refine g_aload C35 X96 at_219 221 rfl rfl ?_
            refine g_callVH C35 X96 hS35 hk96 hEL H_96 (w_46 hw) (w_47 hw) (notFace_of_selects (args := #[]) (mvT C35.2.1 (w_49 hw))) (w_49 hw) (w_48 hw) (w_50 hw) (w_28 hw) q96_0 at_221 [] [] 0 (rm8_t hw Z96 hEL q96_0 q96_1 q96_2 q96_3 f103 f104 f105 f106 f99 f100 f101 f102 f97 hcs hz h5) pd_23 rfl 224 (fun u108 T108 L108 C108 X108 hQ108 hS108 A108 => ?_)
            obtain ⟨o4108, o3108, kd3108, rfl, Nq108, szo4108, szo3108, Kq108, q108_0, q108_1, q108_2, q108_3⟩ := hQ108
            have N108 := Fr.app N96 Nq108
            have f119 := Sta.keepN f97 Kq108 all0
            have f120 := Sta.keepN f98 Kq108 all0
            have Z108 := Nat.le_trans Z96 Kq108.1
            have H_108 := A108.1
            have R_108 := R_96.trans A108
            refine ret1 ?_
            refine g_astore C108 X108 at_224 226 rfl (ls' := #[iv p0, iv p1, iv p2, iv p3, iv p4, iv p5, iv 0, iv 0, iv z8, iv (p1 &&& (255 : Int32)).toUInt32.toUInt16.toUInt32.toInt32, iv (p2 &&& (255 : Int32)).toUInt32.toUInt16.toUInt32.toInt32, iv (p3 &&& (255 : Int32)).toUInt32.toUInt16.toUInt32.toInt32, rv o31, rv b10, iv ln1, rv b77, rv o4108, uu, uu]) rfl ?_
            refine g_iload C108 X108 at_226 228 rfl ?_
            refine g_if_ne C108 X108 at_228 257 231 (fun hc228 => ?_) (fun hc228 => absurd hc228 hz)
            obtain ⟨tx, etx⟩ : ∃ l : List Int32, l = txT q5 ln1 p5 := ⟨_, rfl⟩
            have ytx : Arv Z T108.heap o3108 kd3108 .byte (Int32.ofNat tx.length) (tx.map Value.int) (.int 0) := by rw [etx]; exact q108_3
            refine g_aload C108 X108 at_257 259 rfl rfl ?_
            refine g_ifnonnullY C108 X108 at_259 264 ?_
            refine g_bipush C108 X108 at_264 266 (v := 28) rfl ?_
            refine g_newA (aty := .char) (n := (28 : Int32)) C108 X108 (cap := 28) (w_52 hw) rfl at_266 268 (by decide) (by decide) (by decide) (by decide) (by decide) (fun T133 h133 b133 ki133 X133 e133 g133 E133 A133 => ?_)
            have n134 : o3108 ≠ b133 := Nat.ne_of_lt (Nat.lt_of_lt_of_eq ytx.lt g133.symm)
            have n135 : o4108 ≠ b133 := Nat.ne_of_lt (Nat.lt_of_lt_of_eq q108_0.lt g133.symm)
            have f136 := f119.ext E133
            have f137 := f120.ext E133
            have f138 := q108_0.ext E133
            have f139 := q108_1.ext E133
            have f140 := q108_2.ext E133
            have f141 := ytx.ext E133
            have gn_b133 : n0 ≤ b133 := Nat.le_trans Z108 (Nat.le_of_eq g133.symm)
            have Z133 := Nat.le_trans Z108 E133.1
            have hk133 := Nat.le_trans (Nat.le_refl _) E133.1
            have H_133 := H_108.ext E133
            have R_133 := R_108.trans (CHr.ext E133 H_108)
            have f142 : Arv Z h133 b133 ki133 .char 28 [(.int 0), (.int 0), (.int 0), (.int 0), (.int 0), (.int 0), (.int 0), (.int 0), (.int 0), (.int 0), (.int 0), (.int 0), (.int 0), (.int 0), (.int 0), (.int 0), (.int 0), (.int 0), (.int 0), (.int 0), (.int 0), (.int 0), (.int 0), (.int 0), (.int 0), (.int 0), (.int 0), (.int 0)] (.int 0) := A133.pad (pad_rep [] (.int 0) 28)
            refine g_astore C108 X133 at_268 270 rfl (ls' := #[iv p0, iv p1, iv p2, iv p3, iv p4, iv p5, iv 0, iv 0, iv z8, iv (p1 &&& (255 : Int32)).toUInt32.toUInt16.toUInt32.toInt32, iv (p2 &&& (255 : Int32)).toUInt32.toUInt16.toUInt32.toInt32, iv (p3 &&& (255 : Int32)).toUInt32.toUInt16.toUInt32.toInt32, rv o31, rv b10, iv ln1, rv b77, rv o4108, rv b133, uu]) rfl ?_
            refine g_aload C108 X133 at_270 272 rfl rfl ?_
            refine g_ifnonnullY C108 X133 at_272 305 ?_
            refine g_iload C108 X133 at_305 307 rfl ?_
            refine g_istore C108 X133 at_307 309 (w := 0) rfl (ls' := #[iv p0, iv p1, iv p2, iv p3, iv p4, iv p5, iv 0, iv 0, iv z8, iv (p1 &&& (255 : Int32)).toUInt32.toUInt16.toUInt32.toInt32, iv (p2 &&& (255 : Int32)).toUInt32.toUInt16.toUInt32.toInt32, iv (p3 &&& (255 : Int32)).toUInt32.toUInt16.toUInt32.toInt32, rv o31, rv b10, iv ln1, rv b77, rv o4108, rv b133, iv 0]) rfl ?_
            refine g_iload C108 X133 at_309 311 rfl ?_
            refine g_if_le C108 X133 at_311 320 314 (fun hc311 => ?_) (fun hc311 => absurd hc311 (by decide))
            refine g_iload C108 X133 at_320 322 rfl ?_
            refine g_iconst C108 X133 at_322 323 (v := 1) rfl ?_
            refine g_icmp_le C108 X133 at_323 332 326 (fun hc323 => ?_) (fun hc323 => absurd hc323 (by decide))
            refine g_iload C108 X133 at_332 334 rfl ?_
            refine g_iconst C108 X133 at_334 335 (v := 2) rfl ?_
            refine g_icmp_le C108 X133 at_335 344 338 (fun hc335 => ?_) (fun hc335 => absurd hc335 (by decide))
            refine g_aload C108 X133 at_344 346 rfl rfl ?_
            refine g_iload C108 X133 at_346 348 rfl ?_
            refine g_bipush C108 X133 at_348 350 (v := 58) rfl ?_
            refine g_castore C108 X133 (i := 0) e133 f142 (by decide) rfl (Nat.le_of_ble_eq_true rfl) at_350 351 (fun T143 h143 X143 e143 W143 A143 => ?_)
            have f144 := f136.wr W143
            have f145 := f137.wr W143
            have f146 := f138.wr W143
            have f147 := f139.other W143 (Or.inl n135)
            have f148 := f140.other W143 (Or.inl n135)
            have f149 := f141.other W143 n134
            have f150 : Arv Z h143 b133 ki133 .char 28 [(.int (nar .char (58 : Int32))), (.int 0), (.int 0), (.int 0), (.int 0), (.int 0), (.int 0), (.int 0), (.int 0), (.int 0), (.int 0), (.int 0), (.int 0), (.int 0), (.int 0), (.int 0), (.int 0), (.int 0), (.int 0), (.int 0), (.int 0), (.int 0), (.int 0), (.int 0), (.int 0), (.int 0), (.int 0), (.int 0)] (.int 0) := A143
            have N143 := Fr.snoc X143 N108 gn_b133
            have Z143 := Nat.le_trans Z133 (Nat.le_of_eq W143.size.symm)
            have hk143 := Nat.le_trans hk133 (Nat.le_of_eq W143.size.symm)
            have H_143 := H_133.wr W143 (safe_arv C108.2.1.alike f142 (by decide))
            have R_143 := R_133.trans (CHr.wr W143 (safe_arv C108.2.1.alike f142 (by decide)) H_133)
            have yb7 : Arv Z h143 b133 ki133 .char 28 [(.int (nar .char (58 : Int32)))] (.int 0) := f150.pad (fun i => (pad_rep [(.int (nar .char (58 : Int32)))] (.int 0) 27 i).symm)
            obtain ⟨bl, ebl⟩ : ∃ l : List Int32, l = (q5 ++ [58]).map own_ch := ⟨_, rfl⟩
            have yb6 : Arv Z h143 b133 ki133 .char 28 (bl.map Value.int) (.int 0) := by rw [ebl, e5]; simp only [List.cons_append, List.nil_append, List.map_cons, List.map_nil, own_bk, own58, own110, own117, own108]; exact yb7
            have hbl : bl.length = 1 := by rw [ebl, e5]; rfl
            have q1 := decI_length ln1
            have q2 := decI_length p5
            have hb1 : (bl ++ decI ln1).length ≤ 16 := by rw [List.length_append]; omega
            refine g_aload C108 X143 at_351 353 rfl rfl ?_
            refine g_iload C108 X143 at_353 355 rfl ?_
            refine g_iconst C108 X143 at_355 356 (v := 1) rfl ?_
            refine g_iadd C108 X143 at_356 357 ?_
            rw [show (0 : Int32) + 1 = 1 from by decide]
            refine g_iload C108 X143 at_357 359 rfl ?_
            refine g_callS C108 X143 (w_191 hw) (w_192 hw) (w_193 hw) (w_194 hw) at_359 [(.ref b133), (.int 1), (.int ln1)] [] 0 (rm36 hw Z143 yb6 gn_b133 (by rw [hbl]; rfl) (by rw [hbl]; decide)) pd_40 e143 362 (fun u151 T151 L151 X151 hQ151 => ?_)
            obtain ⟨rfl, Nq151, Kq151, q151_0⟩ := hQ151
            have N151 := Fr.app N143 Nq151
            have f152 := Sta.keepN f144 Kq151 (allS (Arv.nostat yb6) all0)
            have f153 := Sta.keepN f145 Kq151 (allS (Arv.nostat yb6) all0)
            have f154 := f146.keep Kq151
            have f155 := f147.keep Kq151 (ninS n135 nin0)
            have f156 := f148.keep Kq151 (ninS n135 nin0)
            have f157 := f149.keep Kq151 (ninS n134 nin0)
            have Z151 := Nat.le_trans Z143 Kq151.1
            have hk151 := Nat.le_trans hk143 Kq151.1
            have H_151 := CHv.keep Kq151 (allS (safe_arv C108.2.1.alike yb6 (by decide)) all0) H_143
            have R_151 := R_143.trans (CHr.keep Kq151 (allS (safe_arv C108.2.1.alike yb6 (by decide)) all0) H_143)
            refine ret1 ?_
            refine g_istore C108 X151 at_362 364 (w := (Int32.ofNat (bl ++ decI ln1).length)) rfl (ls' := #[iv p0, iv p1, iv p2, iv p3, iv p4, iv p5, iv 0, iv 0, iv z8, iv (p1 &&& (255 : Int32)).toUInt32.toUInt16.toUInt32.toInt32, iv (p2 &&& (255 : Int32)).toUInt32.toUInt16.toUInt32.toInt32, iv (p3 &&& (255 : Int32)).toUInt32.toUInt16.toUInt32.toInt32, rv o31, rv b10, iv ln1, rv b77, rv o4108, rv b133, iv (Int32.ofNat (bl ++ decI ln1).length)]) rfl ?_
            refine g_aload C108 X151 at_364 366 rfl rfl ?_
            refine g_iload C108 X151 at_366 368 rfl ?_
            refine g_bipush C108 X151 at_368 370 (v := 58) rfl ?_
            have fb := q151_0.pad (pad_rep ((bl ++ decI ln1).map Value.int) (.int 0) 1)
            refine g_castore C108 X151 (i := (bl ++ decI ln1).length) rfl fb (set_in (n := (bl ++ decI ln1).length) (m := 28) rfl rfl (by omega) (by decide)) (set_nat (n := (bl ++ decI ln1).length) rfl (by omega)) (set_lt rfl) at_370 371 (fun T158 h158 X158 e158 W158 A158 => ?_)
            have f159 := f152.wr W158
            have f160 := f153.wr W158
            have f161 := f154.wr W158
            have f162 := f155.other W158 (Or.inl n135)
            have f163 := f156.other W158 (Or.inl n135)
            have f164 := f157.other W158 n134
            have f165 : Arv Z h158 b133 ki133 .char 28 (((bl ++ decI ln1) ++ [58]).map Value.int) (.int 0) := (set_app rfl nar58) ▸ A158
            have N158 := Fr.snoc X158 N151 gn_b133
            have Z158 := Nat.le_trans Z151 (Nat.le_of_eq W158.size.symm)
            have hk158 := Nat.le_trans hk151 (Nat.le_of_eq W158.size.symm)
            have H_158 := H_151.wr W158 (safe_arv C108.2.1.alike q151_0 (by decide))
            have R_158 := R_151.trans (CHr.wr W158 (safe_arv C108.2.1.alike q151_0 (by decide)) H_151)
            refine g_aload C108 X158 at_371 373 rfl rfl ?_
            refine g_iload C108 X158 at_373 375 rfl ?_
            refine g_iconst C108 X158 at_375 376 (v := 1) rfl ?_
            refine g_iadd C108 X158 at_376 377 ?_
            rw [len1 (bl ++ decI ln1) 58]
            refine g_iload C108 X158 at_377 379 rfl ?_
            refine g_callS C108 X158 (w_191 hw) (w_192 hw) (w_193 hw) (w_194 hw) at_379 [(.ref b133), (.int (Int32.ofNat ((bl ++ decI ln1) ++ [58]).length)), (.int p5)] [] 0 (rm36 hw Z158 f165 gn_b133 rfl (by rw [List.length_append]; exact Nat.succ_le_succ hb1)) pd_40 e158 382 (fun u166 T166 L166 X166 hQ166 => ?_)
            obtain ⟨rfl, Nq166, Kq166, q166_0⟩ := hQ166
            have N166 := Fr.app N158 Nq166
            have f167 := Sta.keepN f159 Kq166 (allS (Arv.nostat f165) all0)
            have f168 := Sta.keepN f160 Kq166 (allS (Arv.nostat f165) all0)
            have f169 := f161.keep Kq166
            have f170 := f162.keep Kq166 (ninS n135 nin0)
            have f171 := f163.keep Kq166 (ninS n135 nin0)
            have f172 := f164.keep Kq166 (ninS n134 nin0)
            have Z166 := Nat.le_trans Z158 Kq166.1
            have hk166 := Nat.le_trans hk158 Kq166.1
            have H_166 := CHv.keep Kq166 (allS (safe_arv C108.2.1.alike f165 (by decide)) all0) H_158
            have R_166 := R_158.trans (CHr.keep Kq166 (allS (safe_arv C108.2.1.alike f165 (by decide)) all0) H_158)
            refine ret1 ?_
            refine g_istore C108 X166 at_382 384 (w := (Int32.ofNat (((bl ++ decI ln1) ++ [58]) ++ decI p5).length)) rfl (ls' := #[iv p0, iv p1, iv p2, iv p3, iv p4, iv p5, iv 0, iv 0, iv z8, iv (p1 &&& (255 : Int32)).toUInt32.toUInt16.toUInt32.toInt32, iv (p2 &&& (255 : Int32)).toUInt32.toUInt16.toUInt32.toInt32, iv (p3 &&& (255 : Int32)).toUInt32.toUInt16.toUInt32.toInt32, rv o31, rv b10, iv ln1, rv b77, rv o4108, rv b133, iv (Int32.ofNat (((bl ++ decI ln1) ++ [58]) ++ decI p5).length)]) rfl ?_
            obtain ⟨fl, efl⟩ : ∃ l : List Int32, l = (((bl ++ decI ln1) ++ [58]) ++ decI p5) := ⟨_, rfl⟩
            have yb5 : Arv Z T166.heap b133 ki133 .char 28 (fl.map Value.int) (.int 0) := by rw [efl]; exact q166_0
            rw [← efl]
            have hfm := fin_own ebl etx efl
            have h28 : fl.length ≤ 28 := by rw [efl]; simp only [List.length_append, List.length_cons, List.length_nil] at hb1 ⊢; omega
            refine g_aload C108 X166 at_384 386 rfl rfl ?_
            refine g_callV0 C108 X166 (b_23 hw) f169 at_386 [] [] 0 (rm15_s hw Z166 f169 f170 f171 f172 f167 hcs) N166 pd_9 rfl 389 (fun T173 _ X173 N173 e173 => ?_)
            refine g_iload C108 X173 at_389 391 rfl ?_
            refine g_icmp_ne C108 X173 at_391 784 394 (fun hc391 => absurd (by rw [hfm, List.length_map]) hc391) (fun hc391 => ?_)
            refine g_aload C108 X173 at_394 396 rfl rfl ?_
            refine g_aload C108 X173 at_396 398 rfl rfl ?_
            refine g_iload C108 X173 at_398 400 rfl ?_
            refine g_iconst C108 X173 at_400 401 (v := 0) rfl ?_
            refine g_callS0 C108 X173 (b_24 hw) at_401 [(.ref o4108), (.ref b133), (.int (Int32.ofNat fl.length)), (.int 0)] [] 0 (rm39 hw Z166 f169 f170 f171 f172 yb5 f167 f168 hcs hwf rfl (ixr 0) (by decide) hfm h28) N173 pd_41 e173 404 (fun T174 _ X174 N174 e174 => ?_)
            refine g_if_eq C108 X174 at_404 784 407 (fun hc404 => absurd hc404 (by decide)) (fun hc404 => ?_)
            refine g_aload C108 X174 at_407 409 rfl rfl ?_
            refine g_aload C108 X174 at_409 411 rfl rfl ?_
            refine g_iload C108 X174 at_411 413 rfl ?_
            refine g_iconst C108 X174 at_413 414 (v := 1) rfl ?_
            refine g_callS0 C108 X174 (b_24 hw) at_414 [(.ref o4108), (.ref b133), (.int (Int32.ofNat fl.length)), (.int 1)] [] 0 (rm39 hw Z166 f169 f170 f171 f172 yb5 f167 f168 hcs hwf rfl (ixr 1) (by decide) hfm h28) N174 pd_41 e174 417 (fun T175 _ X175 N175 e175 => ?_)
            refine g_if_eq C108 X175 at_417 784 420 (fun hc417 => absurd hc417 (by decide)) (fun hc417 => ?_)
            refine g_aload C108 X175 at_420 422 rfl rfl ?_
            refine g_aload C108 X175 at_422 424 rfl rfl ?_
            refine g_iload C108 X175 at_424 426 rfl ?_
            refine g_iconst C108 X175 at_426 427 (v := 2) rfl ?_
            refine g_callS0 C108 X175 (b_24 hw) at_427 [(.ref o4108), (.ref b133), (.int (Int32.ofNat fl.length)), (.int 2)] [] 0 (rm39 hw Z166 f169 f170 f171 f172 yb5 f167 f168 hcs hwf rfl (ixr 2) (by decide) hfm h28) N175 pd_41 e175 430 (fun T176 _ X176 N176 e176 => ?_)
            refine g_if_eq C108 X176 at_430 784 433 (fun hc430 => absurd hc430 (by decide)) (fun hc430 => ?_)
            refine g_aload C108 X176 at_433 435 rfl rfl ?_
            refine g_aload C108 X176 at_435 437 rfl rfl ?_
            refine g_iload C108 X176 at_437 439 rfl ?_
            refine g_iconst C108 X176 at_439 440 (v := 3) rfl ?_
            refine g_callS0 C108 X176 (b_24 hw) at_440 [(.ref o4108), (.ref b133), (.int (Int32.ofNat fl.length)), (.int 3)] [] 0 (rm39 hw Z166 f169 f170 f171 f172 yb5 f167 f168 hcs hwf rfl (ixr 3) (by decide) hfm h28) N176 pd_41 e176 443 (fun T177 _ X177 N177 e177 => ?_)
            refine g_if_eq C108 X177 at_443 784 446 (fun hc443 => absurd hc443 (by decide)) (fun hc443 => ?_)
            refine g_aload C108 X177 at_446 448 rfl rfl ?_
            refine g_aload C108 X177 at_448 450 rfl rfl ?_
            refine g_iload C108 X177 at_450 452 rfl ?_
            refine g_iconst C108 X177 at_452 453 (v := 4) rfl ?_
            refine g_callS0 C108 X177 (b_24 hw) at_453 [(.ref o4108), (.ref b133), (.int (Int32.ofNat fl.length)), (.int 4)] [] 0 (rm39 hw Z166 f169 f170 f171 f172 yb5 f167 f168 hcs hwf rfl (ixr 4) (by decide) hfm h28) N177 pd_41 e177 456 (fun T178 _ X178 N178 e178 => ?_)
            refine g_if_eq C108 X178 at_456 784 459 (fun hc456 => absurd hc456 (by decide)) (fun hc456 => ?_)
            refine g_aload C108 X178 at_459 461 rfl rfl ?_
            refine g_aload C108 X178 at_461 463 rfl rfl ?_
            refine g_iload C108 X178 at_463 465 rfl ?_
            refine g_iconst C108 X178 at_465 466 (v := 5) rfl ?_
            refine g_callS0 C108 X178 (b_24 hw) at_466 [(.ref o4108), (.ref b133), (.int (Int32.ofNat fl.length)), (.int 5)] [] 0 (rm39 hw Z166 f169 f170 f171 f172 yb5 f167 f168 hcs hwf rfl (ixr 5) (by decide) hfm h28) N178 pd_41 e178 469 (fun T179 _ X179 N179 e179 => ?_)
            refine g_if_eq C108 X179 at_469 784 472 (fun hc469 => absurd hc469 (by decide)) (fun hc469 => ?_)
            refine g_aload C108 X179 at_472 474 rfl rfl ?_
            refine g_aload C108 X179 at_474 476 rfl rfl ?_
            refine g_iload C108 X179 at_476 478 rfl ?_
            refine g_bipush C108 X179 at_478 480 (v := 6) rfl ?_
            refine g_callS0 C108 X179 (b_24 hw) at_480 [(.ref o4108), (.ref b133), (.int (Int32.ofNat fl.length)), (.int 6)] [] 0 (rm39 hw Z166 f169 f170 f171 f172 yb5 f167 f168 hcs hwf rfl (ixr 6) (by decide) hfm h28) N179 pd_41 e179 483 (fun T180 _ X180 N180 e180 => ?_)
            refine g_if_eq C108 X180 at_483 784 486 (fun hc483 => absurd hc483 (by decide)) (fun hc483 => ?_)
            refine g_aload C108 X180 at_486 488 rfl rfl ?_
            refine g_aload C108 X180 at_488 490 rfl rfl ?_
            refine g_iload C108 X180 at_490 492 rfl ?_
            refine g_bipush C108 X180 at_492 494 (v := 7) rfl ?_
            refine g_callS0 C108 X180 (b_24 hw) at_494 [(.ref o4108), (.ref b133), (.int (Int32.ofNat fl.length)), (.int 7)] [] 0 (rm39 hw Z166 f169 f170 f171 f172 yb5 f167 f168 hcs hwf rfl (ixr 7) (by decide) hfm h28) N180 pd_41 e180 497 (fun T181 _ X181 N181 e181 => ?_)
            refine g_if_eq C108 X181 at_497 784 500 (fun hc497 => absurd hc497 (by decide)) (fun hc497 => ?_)
            refine g_aload C108 X181 at_500 502 rfl rfl ?_
            refine g_aload C108 X181 at_502 504 rfl rfl ?_
            refine g_iload C108 X181 at_504 506 rfl ?_
            refine g_bipush C108 X181 at_506 508 (v := 8) rfl ?_
            refine g_callS0 C108 X181 (b_24 hw) at_508 [(.ref o4108), (.ref b133), (.int (Int32.ofNat fl.length)), (.int 8)] [] 0 (rm39 hw Z166 f169 f170 f171 f172 yb5 f167 f168 hcs hwf rfl (ixr 8) (by decide) hfm h28) N181 pd_41 e181 511 (fun T182 _ X182 N182 e182 => ?_)
            refine g_if_eq C108 X182 at_511 784 514 (fun hc511 => absurd hc511 (by decide)) (fun hc511 => ?_)
            refine g_aload C108 X182 at_514 516 rfl rfl ?_
            refine g_aload C108 X182 at_516 518 rfl rfl ?_
            refine g_iload C108 X182 at_518 520 rfl ?_
            refine g_bipush C108 X182 at_520 522 (v := 9) rfl ?_
            refine g_callS0 C108 X182 (b_24 hw) at_522 [(.ref o4108), (.ref b133), (.int (Int32.ofNat fl.length)), (.int 9)] [] 0 (rm39 hw Z166 f169 f170 f171 f172 yb5 f167 f168 hcs hwf rfl (ixr 9) (by decide) hfm h28) N182 pd_41 e182 525 (fun T183 _ X183 N183 e183 => ?_)
            refine g_if_eq C108 X183 at_525 784 528 (fun hc525 => absurd hc525 (by decide)) (fun hc525 => ?_)
            refine g_aload C108 X183 at_528 530 rfl rfl ?_
            refine g_aload C108 X183 at_530 532 rfl rfl ?_
            refine g_iload C108 X183 at_532 534 rfl ?_
            refine g_bipush C108 X183 at_534 536 (v := 10) rfl ?_
            refine g_callS0 C108 X183 (b_24 hw) at_536 [(.ref o4108), (.ref b133), (.int (Int32.ofNat fl.length)), (.int 10)] [] 0 (rm39 hw Z166 f169 f170 f171 f172 yb5 f167 f168 hcs hwf rfl (ixr 10) (by decide) hfm h28) N183 pd_41 e183 539 (fun T184 _ X184 N184 e184 => ?_)
            refine g_if_eq C108 X184 at_539 784 542 (fun hc539 => absurd hc539 (by decide)) (fun hc539 => ?_)
            refine g_aload C108 X184 at_542 544 rfl rfl ?_
            refine g_aload C108 X184 at_544 546 rfl rfl ?_
            refine g_iload C108 X184 at_546 548 rfl ?_
            refine g_bipush C108 X184 at_548 550 (v := 11) rfl ?_
            refine g_callS0 C108 X184 (b_24 hw) at_550 [(.ref o4108), (.ref b133), (.int (Int32.ofNat fl.length)), (.int 11)] [] 0 (rm39 hw Z166 f169 f170 f171 f172 yb5 f167 f168 hcs hwf rfl (ixr 11) (by decide) hfm h28) N184 pd_41 e184 553 (fun T185 _ X185 N185 e185 => ?_)
            refine g_if_eq C108 X185 at_553 784 556 (fun hc553 => absurd hc553 (by decide)) (fun hc553 => ?_)
            refine g_aload C108 X185 at_556 558 rfl rfl ?_
            refine g_aload C108 X185 at_558 560 rfl rfl ?_
            refine g_iload C108 X185 at_560 562 rfl ?_
            refine g_bipush C108 X185 at_562 564 (v := 12) rfl ?_
            refine g_callS0 C108 X185 (b_24 hw) at_564 [(.ref o4108), (.ref b133), (.int (Int32.ofNat fl.length)), (.int 12)] [] 0 (rm39 hw Z166 f169 f170 f171 f172 yb5 f167 f168 hcs hwf rfl (ixr 12) (by decide) hfm h28) N185 pd_41 e185 567 (fun T186 _ X186 N186 e186 => ?_)
            refine g_if_eq C108 X186 at_567 784 570 (fun hc567 => absurd hc567 (by decide)) (fun hc567 => ?_)
            refine g_aload C108 X186 at_570 572 rfl rfl ?_
            refine g_aload C108 X186 at_572 574 rfl rfl ?_
            refine g_iload C108 X186 at_574 576 rfl ?_
            refine g_bipush C108 X186 at_576 578 (v := 13) rfl ?_
            refine g_callS0 C108 X186 (b_24 hw) at_578 [(.ref o4108), (.ref b133), (.int (Int32.ofNat fl.length)), (.int 13)] [] 0 (rm39 hw Z166 f169 f170 f171 f172 yb5 f167 f168 hcs hwf rfl (ixr 13) (by decide) hfm h28) N186 pd_41 e186 581 (fun T187 _ X187 N187 e187 => ?_)
            refine g_if_eq C108 X187 at_581 784 584 (fun hc581 => absurd hc581 (by decide)) (fun hc581 => ?_)
            refine g_aload C108 X187 at_584 586 rfl rfl ?_
            refine g_aload C108 X187 at_586 588 rfl rfl ?_
            refine g_iload C108 X187 at_588 590 rfl ?_
            refine g_bipush C108 X187 at_590 592 (v := 14) rfl ?_
            refine g_callS0 C108 X187 (b_24 hw) at_592 [(.ref o4108), (.ref b133), (.int (Int32.ofNat fl.length)), (.int 14)] [] 0 (rm39 hw Z166 f169 f170 f171 f172 yb5 f167 f168 hcs hwf rfl (ixr 14) (by decide) hfm h28) N187 pd_41 e187 595 (fun T188 _ X188 N188 e188 => ?_)
            refine g_if_eq C108 X188 at_595 784 598 (fun hc595 => absurd hc595 (by decide)) (fun hc595 => ?_)
            refine g_aload C108 X188 at_598 600 rfl rfl ?_
            refine g_aload C108 X188 at_600 602 rfl rfl ?_
            refine g_iload C108 X188 at_602 604 rfl ?_
            refine g_bipush C108 X188 at_604 606 (v := 15) rfl ?_
            refine g_callS0 C108 X188 (b_24 hw) at_606 [(.ref o4108), (.ref b133), (.int (Int32.ofNat fl.length)), (.int 15)] [] 0 (rm39 hw Z166 f169 f170 f171 f172 yb5 f167 f168 hcs hwf rfl (ixr 15) (by decide) hfm h28) N188 pd_41 e188 609 (fun T189 _ X189 N189 e189 => ?_)
            refine g_if_eq C108 X189 at_609 784 612 (fun hc609 => absurd hc609 (by decide)) (fun hc609 => ?_)
            refine g_aload C108 X189 at_612 614 rfl rfl ?_
            refine g_aload C108 X189 at_614 616 rfl rfl ?_
            refine g_iload C108 X189 at_616 618 rfl ?_
            refine g_bipush C108 X189 at_618 620 (v := 16) rfl ?_
            refine g_callS0 C108 X189 (b_24 hw) at_620 [(.ref o4108), (.ref b133), (.int (Int32.ofNat fl.length)), (.int 16)] [] 0 (rm39 hw Z166 f169 f170 f171 f172 yb5 f167 f168 hcs hwf rfl (ixr 16) (by decide) hfm h28) N189 pd_41 e189 623 (fun T190 _ X190 N190 e190 => ?_)
            refine g_if_eq C108 X190 at_623 784 626 (fun hc623 => absurd hc623 (by decide)) (fun hc623 => ?_)
            refine g_aload C108 X190 at_626 628 rfl rfl ?_
            refine g_aload C108 X190 at_628 630 rfl rfl ?_
            refine g_iload C108 X190 at_630 632 rfl ?_
            refine g_bipush C108 X190 at_632 634 (v := 17) rfl ?_
            refine g_callS0 C108 X190 (b_24 hw) at_634 [(.ref o4108), (.ref b133), (.int (Int32.ofNat fl.length)), (.int 17)] [] 0 (rm39 hw Z166 f169 f170 f171 f172 yb5 f167 f168 hcs hwf rfl (ixr 17) (by decide) hfm h28) N190 pd_41 e190 637 (fun T191 _ X191 N191 e191 => ?_)
            refine g_if_eq C108 X191 at_637 784 640 (fun hc637 => absurd hc637 (by decide)) (fun hc637 => ?_)
            refine g_aload C108 X191 at_640 642 rfl rfl ?_
            refine g_aload C108 X191 at_642 644 rfl rfl ?_
            refine g_iload C108 X191 at_644 646 rfl ?_
            refine g_bipush C108 X191 at_646 648 (v := 18) rfl ?_
            refine g_callS0 C108 X191 (b_24 hw) at_648 [(.ref o4108), (.ref b133), (.int (Int32.ofNat fl.length)), (.int 18)] [] 0 (rm39 hw Z166 f169 f170 f171 f172 yb5 f167 f168 hcs hwf rfl (ixr 18) (by decide) hfm h28) N191 pd_41 e191 651 (fun T192 _ X192 N192 e192 => ?_)
            refine g_if_eq C108 X192 at_651 784 654 (fun hc651 => absurd hc651 (by decide)) (fun hc651 => ?_)
            refine g_aload C108 X192 at_654 656 rfl rfl ?_
            refine g_aload C108 X192 at_656 658 rfl rfl ?_
            refine g_iload C108 X192 at_658 660 rfl ?_
            refine g_bipush C108 X192 at_660 662 (v := 19) rfl ?_
            refine g_callS0 C108 X192 (b_24 hw) at_662 [(.ref o4108), (.ref b133), (.int (Int32.ofNat fl.length)), (.int 19)] [] 0 (rm39 hw Z166 f169 f170 f171 f172 yb5 f167 f168 hcs hwf rfl (ixr 19) (by decide) hfm h28) N192 pd_41 e192 665 (fun T193 _ X193 N193 e193 => ?_)
            refine g_if_eq C108 X193 at_665 784 668 (fun hc665 => absurd hc665 (by decide)) (fun hc665 => ?_)
            refine g_aload C108 X193 at_668 670 rfl rfl ?_
            refine g_aload C108 X193 at_670 672 rfl rfl ?_
            refine g_iload C108 X193 at_672 674 rfl ?_
            refine g_bipush C108 X193 at_674 676 (v := 20) rfl ?_
            refine g_callS0 C108 X193 (b_24 hw) at_676 [(.ref o4108), (.ref b133), (.int (Int32.ofNat fl.length)), (.int 20)] [] 0 (rm39 hw Z166 f169 f170 f171 f172 yb5 f167 f168 hcs hwf rfl (ixr 20) (by decide) hfm h28) N193 pd_41 e193 679 (fun T194 _ X194 N194 e194 => ?_)
            refine g_if_eq C108 X194 at_679 784 682 (fun hc679 => absurd hc679 (by decide)) (fun hc679 => ?_)
            refine g_aload C108 X194 at_682 684 rfl rfl ?_
            refine g_aload C108 X194 at_684 686 rfl rfl ?_
            refine g_iload C108 X194 at_686 688 rfl ?_
            refine g_bipush C108 X194 at_688 690 (v := 21) rfl ?_
            refine g_callS0 C108 X194 (b_24 hw) at_690 [(.ref o4108), (.ref b133), (.int (Int32.ofNat fl.length)), (.int 21)] [] 0 (rm39 hw Z166 f169 f170 f171 f172 yb5 f167 f168 hcs hwf rfl (ixr 21) (by decide) hfm h28) N194 pd_41 e194 693 (fun T195 _ X195 N195 e195 => ?_)
            refine g_if_eq C108 X195 at_693 784 696 (fun hc693 => absurd hc693 (by decide)) (fun hc693 => ?_)
            refine g_aload C108 X195 at_696 698 rfl rfl ?_
            refine g_aload C108 X195 at_698 700 rfl rfl ?_
            refine g_iload C108 X195 at_700 702 rfl ?_
            refine g_bipush C108 X195 at_702 704 (v := 22) rfl ?_
            refine g_callS0 C108 X195 (b_24 hw) at_704 [(.ref o4108), (.ref b133), (.int (Int32.ofNat fl.length)), (.int 22)] [] 0 (rm39 hw Z166 f169 f170 f171 f172 yb5 f167 f168 hcs hwf rfl (ixr 22) (by decide) hfm h28) N195 pd_41 e195 707 (fun T196 _ X196 N196 e196 => ?_)
            refine g_if_eq C108 X196 at_707 784 710 (fun hc707 => absurd hc707 (by decide)) (fun hc707 => ?_)
            refine g_aload C108 X196 at_710 712 rfl rfl ?_
            refine g_aload C108 X196 at_712 714 rfl rfl ?_
            refine g_iload C108 X196 at_714 716 rfl ?_
            refine g_bipush C108 X196 at_716 718 (v := 23) rfl ?_
            refine g_callS0 C108 X196 (b_24 hw) at_718 [(.ref o4108), (.ref b133), (.int (Int32.ofNat fl.length)), (.int 23)] [] 0 (rm39 hw Z166 f169 f170 f171 f172 yb5 f167 f168 hcs hwf rfl (ixr 23) (by decide) hfm h28) N196 pd_41 e196 721 (fun T197 _ X197 N197 e197 => ?_)
            refine g_if_eq C108 X197 at_721 784 724 (fun hc721 => absurd hc721 (by decide)) (fun hc721 => ?_)
            refine g_aload C108 X197 at_724 726 rfl rfl ?_
            refine g_aload C108 X197 at_726 728 rfl rfl ?_
            refine g_iload C108 X197 at_728 730 rfl ?_
            refine g_bipush C108 X197 at_730 732 (v := 24) rfl ?_
            refine g_callS0 C108 X197 (b_24 hw) at_732 [(.ref o4108), (.ref b133), (.int (Int32.ofNat fl.length)), (.int 24)] [] 0 (rm39 hw Z166 f169 f170 f171 f172 yb5 f167 f168 hcs hwf rfl (ixr 24) (by decide) hfm h28) N197 pd_41 e197 735 (fun T198 _ X198 N198 e198 => ?_)
            refine g_if_eq C108 X198 at_735 784 738 (fun hc735 => absurd hc735 (by decide)) (fun hc735 => ?_)
            refine g_aload C108 X198 at_738 740 rfl rfl ?_
            refine g_aload C108 X198 at_740 742 rfl rfl ?_
            refine g_iload C108 X198 at_742 744 rfl ?_
            refine g_bipush C108 X198 at_744 746 (v := 25) rfl ?_
            refine g_callS0 C108 X198 (b_24 hw) at_746 [(.ref o4108), (.ref b133), (.int (Int32.ofNat fl.length)), (.int 25)] [] 0 (rm39 hw Z166 f169 f170 f171 f172 yb5 f167 f168 hcs hwf rfl (ixr 25) (by decide) hfm h28) N198 pd_41 e198 749 (fun T199 _ X199 N199 e199 => ?_)
            refine g_if_eq C108 X199 at_749 784 752 (fun hc749 => absurd hc749 (by decide)) (fun hc749 => ?_)
            refine g_aload C108 X199 at_752 754 rfl rfl ?_
            refine g_aload C108 X199 at_754 756 rfl rfl ?_
            refine g_iload C108 X199 at_756 758 rfl ?_
            refine g_bipush C108 X199 at_758 760 (v := 26) rfl ?_
            refine g_callS0 C108 X199 (b_24 hw) at_760 [(.ref o4108), (.ref b133), (.int (Int32.ofNat fl.length)), (.int 26)] [] 0 (rm39 hw Z166 f169 f170 f171 f172 yb5 f167 f168 hcs hwf rfl (ixr 26) (by decide) hfm h28) N199 pd_41 e199 763 (fun T200 _ X200 N200 e200 => ?_)
            refine g_if_eq C108 X200 at_763 784 766 (fun hc763 => absurd hc763 (by decide)) (fun hc763 => ?_)
            refine g_aload C108 X200 at_766 768 rfl rfl ?_
            refine g_aload C108 X200 at_768 770 rfl rfl ?_
            refine g_iload C108 X200 at_770 772 rfl ?_
            refine g_bipush C108 X200 at_772 774 (v := 27) rfl ?_
            refine g_callS0 C108 X200 (b_24 hw) at_774 [(.ref o4108), (.ref b133), (.int (Int32.ofNat fl.length)), (.int 27)] [] 0 (rm39 hw Z166 f169 f170 f171 f172 yb5 f167 f168 hcs hwf rfl (ixr 27) (by decide) hfm h28) N200 pd_41 e200 777 (fun T201 _ X201 N201 e201 => ?_)
            refine g_if_eq C108 X201 at_777 784 780 (fun hc777 => absurd hc777 (by decide)) (fun hc777 => ?_)
            refine g_iconst C108 X201 at_780 781 (v := 1) rfl ?_
            refine g_goto C108 X201 at_781 785 ?_
            exact g_retNH C108 X201 K hS108 hk166 hEL H_166 R_166 (by simp) at_785 (by decide) (by decide) e201 ⟨rfl, N201⟩
        refine g_if_eq C35 X35 at_191 198 194 (fun hc191 => ?_) (fun hc191 => ?_)
        · refine g_iload C35 X35 at_198 200 rfl ?_
          exact j200 _
        · refine g_iconst C35 X35 at_194 195 (v := 0) rfl ?_
          refine g_goto C35 X35 at_195 200 ?_
          exact j200 _
      · subst hsp
        refine g_iload C X1 at_85 87 rfl ?_
        refine g_if_ne C X1 at_87 105 90 (fun hc87 => ?_) (fun hc87 => absurd hc87 (by decide))
        refine g_iload C X1 at_105 107 rfl ?_
        refine g_iconst C X1 at_107 108 (v := 1) rfl ?_
        refine g_icmp_ne C X1 at_108 131 111 (fun hc108 => absurd hc108 (by decide)) (fun hc108 => ?_)
        refine g_new C X1 (w_51 hw) (w_10 hw) (w_2 hw) rfl at_111 114 (by decide) (by decide) (fun T202 h202 b202 X202 e202 g202 E202 A202 D202 => ?_)
        have n203 : o7 ≠ b202 := Nat.ne_of_lt (Nat.lt_of_lt_of_eq f8.lt g202.symm)
        have n204 : o8 ≠ b202 := Nat.ne_of_lt (Nat.lt_of_lt_of_eq f9.lt g202.symm)
        have f205 := f4.ext E202
        have f206 := f5.ext E202
        have f207 := f6.ext E202
        have f208 := f7.ext E202
        have f209 := f8.ext E202
        have f210 := f9.ext E202
        have gn_b202 : n0 ≤ b202 := Nat.le_trans Z1 (Nat.le_of_eq g202.symm)
        have Z202 := Nat.le_trans Z1 E202.1
        have hk202 := Nat.le_trans hk1 E202.1
        have H_202 := H_1.ext E202
        have R_202 := R_1.trans (CHr.ext E202 H_1)
        have sf_b202_202 := Safe.ext E202 H_1 (Safe.new (Nat.le_of_eq g202.symm))
        have f211 : OFv Z h202 b202 .null := D202 (Or.inr (w_23 hw)) (ty := (.array .byte)) (by decide)
        have f212 : OFc Z h202 b202 := D202 (Or.inr (w_25 hw)) (ty := .byte) (by decide)
        refine g_dup C X202 at_114 115 rfl ?_
        refine g_iconst C X202 at_115 116 (v := 1) rfl ?_
        refine g_newA (aty := .char) (n := (1 : Int32)) C X202 (cap := 1) (w_52 hw) e202 at_116 118 (by decide) (by decide) (by decide) (by decide) (by decide) (fun T213 h213 b213 ki213 X213 e213 g213 E213 A213 => ?_)
        have n214 : b202 ≠ b213 := Nat.ne_of_lt (Nat.lt_of_lt_of_eq A202.lt g213.symm)
        have n215 : o7 ≠ b213 := Nat.ne_of_lt (Nat.lt_of_lt_of_eq f209.lt g213.symm)
        have n216 : o8 ≠ b213 := Nat.ne_of_lt (Nat.lt_of_lt_of_eq f210.lt g213.symm)
        have f217 := f205.ext E213
        have f218 := f206.ext E213
        have f219 := f207.ext E213
        have f220 := f208.ext E213
        have f221 := f209.ext E213
        have f222 := f210.ext E213
        have f223 := A202.ext E213
        have f224 := f211.ext E213
        have f225 := f212.ext E213
        have gn_b213 : n0 ≤ b213 := Nat.le_trans Z202 (Nat.le_of_eq g213.symm)
        have Z213 := Nat.le_trans Z202 E213.1
        have hk213 := Nat.le_trans hk202 E213.1
        have H_213 := H_202.ext E213
        have R_213 := R_202.trans (CHr.ext E213 H_202)
        have sf_b202_213 := Safe.ext E213 H_202 sf_b202_202
        have f226 : Arv Z h213 b213 ki213 .char 1 [(.int 0)] (.int 0) := A213.pad (pad_rep [] (.int 0) 1)
        refine g_dup C X213 at_118 119 rfl ?_
        refine g_iconst C X213 at_119 120 (v := 0) rfl ?_
        refine g_iload C X213 at_120 122 rfl ?_
        refine g_castore C X213 (i := 0) e213 f226 (by decide) rfl (Nat.le_of_ble_eq_true rfl) at_122 123 (fun T227 h227 X227 e227 W227 A227 => ?_)
        have f228 := f217.wr W227
        have f229 := f218.wr W227
        have f230 := f219.wr W227
        have f231 := f220.wr W227
        have f232 := f221.other W227 n215
        have f233 := f222.other W227 n216
        have f234 := f223.wr W227
        have f235 := f224.other W227 (Or.inl n214)
        have f236 := f225.other W227 (Or.inl n214)
        have f237 : Arv Z h227 b213 ki213 .char 1 [(.int (nar .char (p1 &&& (255 : Int32)).toUInt32.toUInt16.toUInt32.toInt32))] (.int 0) := A227
        have N227 := Fr.snoc X227 N1 gn_b213
        have Z227 := Nat.le_trans Z213 (Nat.le_of_eq W227.size.symm)
        have hk227 := Nat.le_trans hk213 (Nat.le_of_eq W227.size.symm)
        have H_227 := H_213.wr W227 (safe_arv C.2.1.alike f226 (by decide))
        have R_227 := R_213.trans (CHr.wr W227 (safe_arv C.2.1.alike f226 (by decide)) H_213)
        have sf_b202_227 := Safe.wr W227 (safe_arv C.2.1.alike f226 (by decide)) H_213 sf_b202_213
        refine g_callI C X227 rfl (w_53 hw) (w_54 hw) (w_2 hw) (w_55 hw) at_123 [(.ref b213)] [(.ref b202)] 1 (rm9_1 hw Z227 f234 f235 f236 f237 f228 gn_b202 (own_nc _) hcs n214) pd_37 e227 126 (fun u238 T238 L238 X238 hQ238 => ?_)
        obtain ⟨o3238, kd3238, rfl, Nq238, szo3238, Kq238, q238_0, q238_1, q238_2, q238_3⟩ := hQ238
        have N238 := Fr.app N227 Nq238
        have f243 := Sta.keepN f228 Kq238 (allS (Exa.ns f234) all0)
        have f244 := Sta.keepN f229 Kq238 (allS (Exa.ns f234) all0)
        have f245 := Sta.keepN f230 Kq238 (allS (Exa.ns f234) all0)
        have f246 := Sta.keepN f231 Kq238 (allS (Exa.ns f234) all0)
        have f247 := f232.keep Kq238 (ninS n203 nin0)
        have f248 := f233.keep Kq238 (ninS n204 nin0)
        have Z238 := Nat.le_trans Z227 Kq238.1
        have hk238 := Nat.le_trans hk227 Kq238.1
        have H_238 := CHv.keep Kq238 (allS sf_b202_227 all0) H_227
        have R_238 := R_227.trans (CHr.keep Kq238 (allS sf_b202_227 all0) H_227)
        refine ret0 ?_
        refine g_astore C X238 at_126 128 rfl (ls' := #[iv p0, iv p1, iv p2, iv p3, iv p4, iv p5, iv 1, iv 0, iv z8, iv (p1 &&& (255 : Int32)).toUInt32.toUInt16.toUInt32.toInt32, iv (p2 &&& (255 : Int32)).toUInt32.toUInt16.toUInt32.toInt32, iv (p3 &&& (255 : Int32)).toUInt32.toUInt16.toUInt32.toInt32, rv o31, rv b202, uu, uu, uu, uu, uu]) rfl ?_
        refine g_goto C X238 at_128 189 ?_
        obtain ⟨q5, e5, h5⟩ : ∃ l : List Int32, l = [(nar .byte (nar .char (p1 &&& (255 : Int32)).toUInt32.toUInt16.toUInt32.toInt32).toInt8.toInt32)] ∧ l.length ≤ 4 := ⟨_, rfl, Nat.le_of_ble_eq_true rfl⟩
        have yq5 : Arv Z T238.heap o3238 kd3238 .byte (Int32.ofNat q5.length) (q5.map Value.int) (.int 0) := by rw [e5]; exact q238_3
        refine g_iload C X238 at_189 191 rfl ?_
        have j200 : ∀ ln1 : Int32, Goes p.tables e below G (T238.setTop (mkF m 200 #[iv p0, iv p1, iv p2, iv p3, iv p4, iv p5, iv 1, iv 0, iv z8, iv (p1 &&& (255 : Int32)).toUInt32.toUInt16.toUInt32.toInt32, iv (p2 &&& (255 : Int32)).toUInt32.toUInt16.toUInt32.toInt32, iv (p3 &&& (255 : Int32)).toUInt32.toUInt16.toUInt32.toInt32, rv o31, rv b202, uu, uu, uu, uu, uu] [(.int ln1)])) := by
          intro ln1
          refine g_istore C X238 at_200 202 (w := ln1) rfl (ls' := #[iv p0, iv p1, iv p2, iv p3, iv p4, iv p5, iv 1, iv 0, iv z8, iv (p1 &&& (255 : Int32)).toUInt32.toUInt16.toUInt32.toInt32, iv (p2 &&& (255 : Int32)).toUInt32.toUInt16.toUInt32.toInt32, iv (p3 &&& (255 : Int32)).toUInt32.toUInt16.toUInt32.toInt32, rv o31, rv b202, iv ln1, uu, uu, uu, uu]) rfl ?_
          by_cases hz : ln1 = (0 : Int32)
          · refine g_new C X238 (w_26 hw) (w_27 hw) (w_28 hw) rfl at_202 205 (by decide) (by decide) (fun T251 h251 b251 X251 e251 g251 E251 A251 D251 => ?_)
            have f262 := q238_0.ext E251
            have gn_b251 : n0 ≤ b251 := Nat.le_trans Z238 (Nat.le_of_eq g251.symm)
            have Z251 := Nat.le_trans Z238 E251.1
            have hk251 := Nat.le_trans hk238 E251.1
            have H_251 := H_238.ext E251
            have R_251 := R_238.trans (CHr.ext E251 H_238)
            have f266 : Fld Z h251 b251 "com/example/mortise/mortise/core/Problem" "path" "Ljava/lang/String;" .null := D251 (Or.inr (w_39 hw)) (ty := (.object "java/lang/String")) (by decide)
            have f267 : Fld Z h251 b251 "com/example/mortise/mortise/core/Problem" "line" "I" (.int 0) := D251 (Or.inr (w_41 hw)) (ty := .int) (by decide)
            have f268 : Fld Z h251 b251 "com/example/mortise/mortise/core/Problem" "column" "I" (.int 0) := D251 (Or.inr (w_43 hw)) (ty := .int) (by decide)
            have f269 : Fld Z h251 b251 "com/example/mortise/mortise/core/Problem" "message" "Ljava/lang/String;" .null := D251 (Or.inr (w_45 hw)) (ty := (.object "java/lang/String")) (by decide)
            refine g_dup C X251 at_205 206 rfl ?_
            refine g_aload C X251 at_206 208 rfl rfl ?_
            refine g_iload C X251 at_208 210 rfl ?_
            refine g_iload C X251 at_210 212 rfl ?_
            refine g_aload C X251 at_212 214 rfl rfl ?_
            refine g_callI C X251 rfl (w_29 hw) (w_30 hw) (w_28 hw) (w_31 hw) at_214 [(.ref b202), (.int ln1), (.int p5), (.ref o31)] [(.ref b251)] 1 (rm6 hw Z251 A251 f266 f267 f268 f269 gn_b251) pd_38 e251 217 (fun u270 T270 L270 X270 hQ270 => ?_)
            obtain ⟨rfl, Nq270, Kq270, q270_0, q270_1, q270_2, q270_3⟩ := hQ270
            have N270 := Fr.app N238 Nq270
            have f277 := f262.keep Kq270
            have Z270 := Nat.le_trans Z251 Kq270.1
            have hk270 := Nat.le_trans hk251 Kq270.1
            have H_270 := CHv.keep Kq270 (allS (Safe.exa C.2.1.alike A251 (by decide) (by decide)) all0) H_251
            have R_270 := R_251.trans (CHr.keep Kq270 (allS (Safe.exa C.2.1.alike A251 (by decide) (by decide)) all0) H_251)
            refine ret0 ?_
            refine g_astore C X270 at_217 219 rfl (ls' := #[iv p0, iv p1, iv p2, iv p3, iv p4, iv p5, iv 1, iv 0, iv z8, iv (p1 &&& (255 : Int32)).toUInt32.toUInt16.toUInt32.toInt32, iv (p2 &&& (255 : Int32)).toUInt32.toUInt16.toUInt32.toInt32, iv (p3 &&& (255 : Int32)).toUInt32.toUInt16.toUInt32.toInt32, rv o31, rv b202, iv ln1, rv b251, uu, uu, uu]) rfl ?_
            refine g_aload C X270 at_219 221 rfl rfl ?_
            refine g_callV0 C X270 (b_21 hw) q270_0 at_221 [] [] 0 (rm8_z hw Z270 q270_1 q270_2 q270_3 hz) N270 pd_23 rfl 224 (fun T282 _ X282 N282 e282 => ?_)
            refine g_astore C X282 at_224 226 rfl (ls' := #[iv p0, iv p1, iv p2, iv p3, iv p4, iv p5, iv 1, iv 0, iv z8, iv (p1 &&& (255 : Int32)).toUInt32.toUInt16.toUInt32.toInt32, iv (p2 &&& (255 : Int32)).toUInt32.toUInt16.toUInt32.toInt32, iv (p3 &&& (255 : Int32)).toUInt32.toUInt16.toUInt32.toInt32, rv o31, rv b202, iv ln1, rv b251, rv b202, uu, uu]) rfl ?_
            refine g_iload C X282 at_226 228 rfl ?_
            refine g_if_ne C X282 at_228 257 231 (fun hc228 => absurd hz hc228) (fun hc228 => ?_)
            refine g_aload C X282 at_231 233 rfl rfl ?_
            refine g_ifnonnullY C X282 at_233 249 ?_
            refine g_aload C X282 at_249 251 rfl rfl ?_
            refine g_aload C X282 at_251 253 rfl rfl ?_
            refine g_callV0 C X282 (b_22 hw) f277 at_253 [(.ref b202)] [] 0 (rm52 hw Z270 rfl) N282 pd_39 e282 256 (fun T283 _ X283 N283 e283 => ?_)
            exact g_retNH C X283 K hS0 hk270 hEL H_270 R_270 (by simp) at_256 (by decide) (by decide) e283 ⟨rfl, N283⟩
          · refine g_new C X238 (w_26 hw) (w_27 hw) (w_28 hw) rfl at_202 205 (by decide) (by decide) (fun T284 h284 b284 X284 e284 g284 E284 A284 D284 => ?_)
            have n285 : b202 ≠ b284 := Nat.ne_of_lt (Nat.lt_of_lt_of_eq q238_0.lt g284.symm)
            have n286 : o3238 ≠ b284 := Nat.ne_of_lt (Nat.lt_of_lt_of_eq yq5.lt g284.symm)
            have n287 : o7 ≠ b284 := Nat.ne_of_lt (Nat.lt_of_lt_of_eq f247.lt g284.symm)
            have n288 : o8 ≠ b284 := Nat.ne_of_lt (Nat.lt_of_lt_of_eq f248.lt g284.symm)
            have f289 := f243.ext E284
            have f290 := f244.ext E284
            have f291 := f245.ext E284
            have f292 := f246.ext E284
            have f293 := f247.ext E284
            have f294 := f248.ext E284
            have f295 := q238_0.ext E284
            have f296 := q238_1.ext E284
            have f297 := q238_2.ext E284
            have f298 := yq5.ext E284
            have gn_b284 : n0 ≤ b284 := Nat.le_trans Z238 (Nat.le_of_eq g284.symm)
            have Z284 := Nat.le_trans Z238 E284.1
            have hk284 := Nat.le_trans hk238 E284.1
            have H_284 := H_238.ext E284
            have R_284 := R_238.trans (CHr.ext E284 H_238)
            have f299 : Fld Z h284 b284 "com/example/mortise/mortise/core/Problem" "path" "Ljava/lang/String;" .null := D284 (Or.inr (w_39 hw)) (ty := (.object "java/lang/String")) (by decide)
            have f300 : Fld Z h284 b284 "com/example/mortise/mortise/core/Problem" "line" "I" (.int 0) := D284 (Or.inr (w_41 hw)) (ty := .int) (by decide)
            have f301 : Fld Z h284 b284 "com/example/mortise/mortise/core/Problem" "column" "I" (.int 0) := D284 (Or.inr (w_43 hw)) (ty := .int) (by decide)
            have f302 : Fld Z h284 b284 "com/example/mortise/mortise/core/Problem" "message" "Ljava/lang/String;" .null := D284 (Or.inr (w_45 hw)) (ty := (.object "java/lang/String")) (by decide)
            refine g_dup C X284 at_205 206 rfl ?_
            refine g_aload C X284 at_206 208 rfl rfl ?_
            refine g_iload C X284 at_208 210 rfl ?_
            refine g_iload C X284 at_210 212 rfl ?_
            refine g_aload C X284 at_212 214 rfl rfl ?_
            refine g_callI C X284 rfl (w_29 hw) (w_30 hw) (w_28 hw) (w_31 hw) at_214 [(.ref b202), (.int ln1), (.int p5), (.ref o31)] [(.ref b284)] 1 (rm6 hw Z284 A284 f299 f300 f301 f302 gn_b284) pd_38 e284 217 (fun u303 T303 L303 X303 hQ303 => ?_)
            obtain ⟨rfl, Nq303, Kq303, q303_0, q303_1, q303_2, q303_3⟩ := hQ303
            have N303 := Fr.app N238 Nq303
            have f304 := Sta.keepN f289 Kq303 (allS (Exa.ns A284) all0)
            have f305 := Sta.keepN f290 Kq303 (allS (Exa.ns A284) all0)
            have f306 := Sta.keepN f291 Kq303 (allS (Exa.ns A284) all0)
            have f307 := Sta.keepN f292 Kq303 (allS (Exa.ns A284) all0)
            have f308 := f293.keep Kq303 (ninS n287 nin0)
            have f309 := f294.keep Kq303 (ninS n288 nin0)
            have f310 := f295.keep Kq303
            have f311 := f296.keep Kq303 (ninS n285 nin0)
            have f312 := f297.keep Kq303 (ninS n285 nin0)
            have f313 := f298.keep Kq303 (ninS n286 nin0)
            have Z303 := Nat.le_trans Z284 Kq303.1
            have hk303 := Nat.le_trans hk284 Kq303.1
            have H_303 := CHv.keep Kq303 (allS (Safe.exa C.2.1.alike A284 (by decide) (by decide)) all0) H_284
            have R_303 := R_284.trans (CHr.keep Kq303 (allS (Safe.exa C.2.1.alike A284 (by decide) (by decide)) all0) H_284)
            refine ret0 ?_
            refine g_astore C X303 at_217 219 rfl (ls' := #[iv p0, iv p1, iv p2, iv p3, iv p4, iv p5, iv 1, iv 0, iv z8, iv (p1 &&& (255 : Int32)).toUInt32.toUInt16.toUInt32.toInt32, iv (p2 &&& (255 : Int32)).toUInt32.toUInt16.toUInt32.toInt32, iv (p3 &&& (255 : Int32)).toUInt32.toUInt16.toUInt32.toInt32, rv o31, rv b202, iv ln1, rv b284, uu, uu, uu]) rfl ?_
            refine g_aload C X303 at_219 221 rfl rfl ?_
            refine g_callVH C X303 hS0 hk303 hEL H_303 (w_46 hw) (w_47 hw) (notFace_of_selects (args := #[]) (mvT C.2.1 (w_49 hw))) (w_49 hw) (w_48 hw) (w_50 hw) (w_28 hw) q303_0 at_221 [] [] 0 (rm8_t hw Z303 hEL q303_0 q303_1 q303_2 q303_3 f310 f311 f312 f313 f306 f307 f308 f309 f304 hcs hz h5) pd_23 rfl 224 (fun u315 T315 L315 C315 X315 hQ315 hS315 A315 => ?_)
            obtain ⟨o4315, o3315, kd3315, rfl, Nq315, szo4315, szo3315, Kq315, q315_0, q315_1, q315_2, q315_3⟩ := hQ315
            have N315 := Fr.app N303 Nq315
            have f326 := Sta.keepN f304 Kq315 all0
            have f327 := Sta.keepN f305 Kq315 all0
            have Z315 := Nat.le_trans Z303 Kq315.1
            have H_315 := A315.1
            have R_315 := R_303.trans A315
            refine ret1 ?_
            refine g_astore C315 X315 at_224 226 rfl (ls' := #[iv p0, iv p1, iv p2, iv p3, iv p4, iv p5, iv 1, iv 0, iv z8, iv (p1 &&& (255 : Int32)).toUInt32.toUInt16.toUInt32.toInt32, iv (p2 &&& (255 : Int32)).toUInt32.toUInt16.toUInt32.toInt32, iv (p3 &&& (255 : Int32)).toUInt32.toUInt16.toUInt32.toInt32, rv o31, rv b202, iv ln1, rv b284, rv o4315, uu, uu]) rfl ?_
            refine g_iload C315 X315 at_226 228 rfl ?_
            refine g_if_ne C315 X315 at_228 257 231 (fun hc228 => ?_) (fun hc228 => absurd hc228 hz)
            obtain ⟨tx, etx⟩ : ∃ l : List Int32, l = txT q5 ln1 p5 := ⟨_, rfl⟩
            have ytx : Arv Z T315.heap o3315 kd3315 .byte (Int32.ofNat tx.length) (tx.map Value.int) (.int 0) := by rw [etx]; exact q315_3
            refine g_aload C315 X315 at_257 259 rfl rfl ?_
            refine g_ifnonnullY C315 X315 at_259 264 ?_
            refine g_bipush C315 X315 at_264 266 (v := 28) rfl ?_
            refine g_newA (aty := .char) (n := (28 : Int32)) C315 X315 (cap := 28) (w_52 hw) rfl at_266 268 (by decide) (by decide) (by decide) (by decide) (by decide) (fun T340 h340 b340 ki340 X340 e340 g340 E340 A340 => ?_)
            have n341 : o3315 ≠ b340 := Nat.ne_of_lt (Nat.lt_of_lt_of_eq ytx.lt g340.symm)
            have n342 : o4315 ≠ b340 := Nat.ne_of_lt (Nat.lt_of_lt_of_eq q315_0.lt g340.symm)
            have f343 := f326.ext E340
            have f344 := f327.ext E340
            have f345 := q315_0.ext E340
            have f346 := q315_1.ext E340
            have f347 := q315_2.ext E340
            have f348 := ytx.ext E340
            have gn_b340 : n0 ≤ b340 := Nat.le_trans Z315 (Nat.le_of_eq g340.symm)
            have Z340 := Nat.le_trans Z315 E340.1
            have hk340 := Nat.le_trans (Nat.le_refl _) E340.1
            have H_340 := H_315.ext E340
            have R_340 := R_315.trans (CHr.ext E340 H_315)
            have f349 : Arv Z h340 b340 ki340 .char 28 [(.int 0), (.int 0), (.int 0), (.int 0), (.int 0), (.int 0), (.int 0), (.int 0), (.int 0), (.int 0), (.int 0), (.int 0), (.int 0), (.int 0), (.int 0), (.int 0), (.int 0), (.int 0), (.int 0), (.int 0), (.int 0), (.int 0), (.int 0), (.int 0), (.int 0), (.int 0), (.int 0), (.int 0)] (.int 0) := A340.pad (pad_rep [] (.int 0) 28)
            refine g_astore C315 X340 at_268 270 rfl (ls' := #[iv p0, iv p1, iv p2, iv p3, iv p4, iv p5, iv 1, iv 0, iv z8, iv (p1 &&& (255 : Int32)).toUInt32.toUInt16.toUInt32.toInt32, iv (p2 &&& (255 : Int32)).toUInt32.toUInt16.toUInt32.toInt32, iv (p3 &&& (255 : Int32)).toUInt32.toUInt16.toUInt32.toInt32, rv o31, rv b202, iv ln1, rv b284, rv o4315, rv b340, uu]) rfl ?_
            refine g_aload C315 X340 at_270 272 rfl rfl ?_
            refine g_ifnonnullY C315 X340 at_272 305 ?_
            refine g_iload C315 X340 at_305 307 rfl ?_
            refine g_istore C315 X340 at_307 309 (w := 1) rfl (ls' := #[iv p0, iv p1, iv p2, iv p3, iv p4, iv p5, iv 1, iv 0, iv z8, iv (p1 &&& (255 : Int32)).toUInt32.toUInt16.toUInt32.toInt32, iv (p2 &&& (255 : Int32)).toUInt32.toUInt16.toUInt32.toInt32, iv (p3 &&& (255 : Int32)).toUInt32.toUInt16.toUInt32.toInt32, rv o31, rv b202, iv ln1, rv b284, rv o4315, rv b340, iv 1]) rfl ?_
            refine g_iload C315 X340 at_309 311 rfl ?_
            refine g_if_le C315 X340 at_311 320 314 (fun hc311 => absurd hc311 (by decide)) (fun hc311 => ?_)
            refine g_aload C315 X340 at_314 316 rfl rfl ?_
            refine g_iconst C315 X340 at_316 317 (v := 0) rfl ?_
            refine g_iload C315 X340 at_317 319 rfl ?_
            refine g_castore C315 X340 (i := 0) e340 f349 (by decide) rfl (Nat.le_of_ble_eq_true rfl) at_319 320 (fun T350 h350 X350 e350 W350 A350 => ?_)
            have f351 := f343.wr W350
            have f352 := f344.wr W350
            have f353 := f345.wr W350
            have f354 := f346.other W350 (Or.inl n342)
            have f355 := f347.other W350 (Or.inl n342)
            have f356 := f348.other W350 n341
            have f357 : Arv Z h350 b340 ki340 .char 28 [(.int (nar .char (p1 &&& (255 : Int32)).toUInt32.toUInt16.toUInt32.toInt32)), (.int 0), (.int 0), (.int 0), (.int 0), (.int 0), (.int 0), (.int 0), (.int 0), (.int 0), (.int 0), (.int 0), (.int 0), (.int 0), (.int 0), (.int 0), (.int 0), (.int 0), (.int 0), (.int 0), (.int 0), (.int 0), (.int 0), (.int 0), (.int 0), (.int 0), (.int 0), (.int 0)] (.int 0) := A350
            have N350 := Fr.snoc X350 N315 gn_b340
            have Z350 := Nat.le_trans Z340 (Nat.le_of_eq W350.size.symm)
            have hk350 := Nat.le_trans hk340 (Nat.le_of_eq W350.size.symm)
            have H_350 := H_340.wr W350 (safe_arv C315.2.1.alike f349 (by decide))
            have R_350 := R_340.trans (CHr.wr W350 (safe_arv C315.2.1.alike f349 (by decide)) H_340)
            refine g_iload C315 X350 at_320 322 rfl ?_
            refine g_iconst C315 X350 at_322 323 (v := 1) rfl ?_
            refine g_icmp_le C315 X350 at_323 332 326 (fun hc323 => ?_) (fun hc323 => absurd hc323 (by decide))
            refine g_iload C315 X350 at_332 334 rfl ?_
            refine g_iconst C315 X350 at_334 335 (v := 2) rfl ?_
            refine g_icmp_le C315 X350 at_335 344 338 (fun hc335 => ?_) (fun hc335 => absurd hc335 (by decide))
            refine g_aload C315 X350 at_344 346 rfl rfl ?_
            refine g_iload C315 X350 at_346 348 rfl ?_
            refine g_bipush C315 X350 at_348 350 (v := 58) rfl ?_
            refine g_castore C315 X350 (i := 1) e350 f357 (by decide) rfl (Nat.le_of_ble_eq_true rfl) at_350 351 (fun T358 h358 X358 e358 W358 A358 => ?_)
            have f359 := f351.wr W358
            have f360 := f352.wr W358
            have f361 := f353.wr W358
            have f362 := f354.other W358 (Or.inl n342)
            have f363 := f355.other W358 (Or.inl n342)
            have f364 := f356.other W358 n341
            have f365 : Arv Z h358 b340 ki340 .char 28 [(.int (nar .char (p1 &&& (255 : Int32)).toUInt32.toUInt16.toUInt32.toInt32)), (.int (nar .char (58 : Int32))), (.int 0), (.int 0), (.int 0), (.int 0), (.int 0), (.int 0), (.int 0), (.int 0), (.int 0), (.int 0), (.int 0), (.int 0), (.int 0), (.int 0), (.int 0), (.int 0), (.int 0), (.int 0), (.int 0), (.int 0), (.int 0), (.int 0), (.int 0), (.int 0), (.int 0), (.int 0)] (.int 0) := A358
            have N358 := Fr.snoc X358 N350 gn_b340
            have Z358 := Nat.le_trans Z350 (Nat.le_of_eq W358.size.symm)
            have hk358 := Nat.le_trans hk350 (Nat.le_of_eq W358.size.symm)
            have H_358 := H_350.wr W358 (safe_arv C315.2.1.alike f357 (by decide))
            have R_358 := R_350.trans (CHr.wr W358 (safe_arv C315.2.1.alike f357 (by decide)) H_350)
            have yb7 : Arv Z h358 b340 ki340 .char 28 [(.int (nar .char (p1 &&& (255 : Int32)).toUInt32.toUInt16.toUInt32.toInt32)), (.int (nar .char (58 : Int32)))] (.int 0) := f365.pad (fun i => (pad_rep [(.int (nar .char (p1 &&& (255 : Int32)).toUInt32.toUInt16.toUInt32.toInt32)), (.int (nar .char (58 : Int32)))] (.int 0) 26 i).symm)
            obtain ⟨bl, ebl⟩ : ∃ l : List Int32, l = (q5 ++ [58]).map own_ch := ⟨_, rfl⟩
            have yb6 : Arv Z h358 b340 ki340 .char 28 (bl.map Value.int) (.int 0) := by rw [ebl, e5]; simp only [List.cons_append, List.nil_append, List.map_cons, List.map_nil, own_bk, own58, own110, own117, own108]; exact yb7
            have hbl : bl.length = 2 := by rw [ebl, e5]; rfl
            have q1 := decI_length ln1
            have q2 := decI_length p5
            have hb1 : (bl ++ decI ln1).length ≤ 16 := by rw [List.length_append]; omega
            refine g_aload C315 X358 at_351 353 rfl rfl ?_
            refine g_iload C315 X358 at_353 355 rfl ?_
            refine g_iconst C315 X358 at_355 356 (v := 1) rfl ?_
            refine g_iadd C315 X358 at_356 357 ?_
            rw [show (1 : Int32) + 1 = 2 from by decide]
            refine g_iload C315 X358 at_357 359 rfl ?_
            refine g_callS C315 X358 (w_191 hw) (w_192 hw) (w_193 hw) (w_194 hw) at_359 [(.ref b340), (.int 2), (.int ln1)] [] 0 (rm36 hw Z358 yb6 gn_b340 (by rw [hbl]; rfl) (by rw [hbl]; decide)) pd_40 e358 362 (fun u366 T366 L366 X366 hQ366 => ?_)
            obtain ⟨rfl, Nq366, Kq366, q366_0⟩ := hQ366
            have N366 := Fr.app N358 Nq366
            have f367 := Sta.keepN f359 Kq366 (allS (Arv.nostat yb6) all0)
            have f368 := Sta.keepN f360 Kq366 (allS (Arv.nostat yb6) all0)
            have f369 := f361.keep Kq366
            have f370 := f362.keep Kq366 (ninS n342 nin0)
            have f371 := f363.keep Kq366 (ninS n342 nin0)
            have f372 := f364.keep Kq366 (ninS n341 nin0)
            have Z366 := Nat.le_trans Z358 Kq366.1
            have hk366 := Nat.le_trans hk358 Kq366.1
            have H_366 := CHv.keep Kq366 (allS (safe_arv C315.2.1.alike yb6 (by decide)) all0) H_358
            have R_366 := R_358.trans (CHr.keep Kq366 (allS (safe_arv C315.2.1.alike yb6 (by decide)) all0) H_358)
            refine ret1 ?_
            refine g_istore C315 X366 at_362 364 (w := (Int32.ofNat (bl ++ decI ln1).length)) rfl (ls' := #[iv p0, iv p1, iv p2, iv p3, iv p4, iv p5, iv 1, iv 0, iv z8, iv (p1 &&& (255 : Int32)).toUInt32.toUInt16.toUInt32.toInt32, iv (p2 &&& (255 : Int32)).toUInt32.toUInt16.toUInt32.toInt32, iv (p3 &&& (255 : Int32)).toUInt32.toUInt16.toUInt32.toInt32, rv o31, rv b202, iv ln1, rv b284, rv o4315, rv b340, iv (Int32.ofNat (bl ++ decI ln1).length)]) rfl ?_
            refine g_aload C315 X366 at_364 366 rfl rfl ?_
            refine g_iload C315 X366 at_366 368 rfl ?_
            refine g_bipush C315 X366 at_368 370 (v := 58) rfl ?_
            have fb := q366_0.pad (pad_rep ((bl ++ decI ln1).map Value.int) (.int 0) 1)
            refine g_castore C315 X366 (i := (bl ++ decI ln1).length) rfl fb (set_in (n := (bl ++ decI ln1).length) (m := 28) rfl rfl (by omega) (by decide)) (set_nat (n := (bl ++ decI ln1).length) rfl (by omega)) (set_lt rfl) at_370 371 (fun T373 h373 X373 e373 W373 A373 => ?_)
            have f374 := f367.wr W373
            have f375 := f368.wr W373
            have f376 := f369.wr W373
            have f377 := f370.other W373 (Or.inl n342)
            have f378 := f371.other W373 (Or.inl n342)
            have f379 := f372.other W373 n341
            have f380 : Arv Z h373 b340 ki340 .char 28 (((bl ++ decI ln1) ++ [58]).map Value.int) (.int 0) := (set_app rfl nar58) ▸ A373
            have N373 := Fr.snoc X373 N366 gn_b340
            have Z373 := Nat.le_trans Z366 (Nat.le_of_eq W373.size.symm)
            have hk373 := Nat.le_trans hk366 (Nat.le_of_eq W373.size.symm)
            have H_373 := H_366.wr W373 (safe_arv C315.2.1.alike q366_0 (by decide))
            have R_373 := R_366.trans (CHr.wr W373 (safe_arv C315.2.1.alike q366_0 (by decide)) H_366)
            refine g_aload C315 X373 at_371 373 rfl rfl ?_
            refine g_iload C315 X373 at_373 375 rfl ?_
            refine g_iconst C315 X373 at_375 376 (v := 1) rfl ?_
            refine g_iadd C315 X373 at_376 377 ?_
            rw [len1 (bl ++ decI ln1) 58]
            refine g_iload C315 X373 at_377 379 rfl ?_
            refine g_callS C315 X373 (w_191 hw) (w_192 hw) (w_193 hw) (w_194 hw) at_379 [(.ref b340), (.int (Int32.ofNat ((bl ++ decI ln1) ++ [58]).length)), (.int p5)] [] 0 (rm36 hw Z373 f380 gn_b340 rfl (by rw [List.length_append]; exact Nat.succ_le_succ hb1)) pd_40 e373 382 (fun u381 T381 L381 X381 hQ381 => ?_)
            obtain ⟨rfl, Nq381, Kq381, q381_0⟩ := hQ381
            have N381 := Fr.app N373 Nq381
            have f382 := Sta.keepN f374 Kq381 (allS (Arv.nostat f380) all0)
            have f383 := Sta.keepN f375 Kq381 (allS (Arv.nostat f380) all0)
            have f384 := f376.keep Kq381
            have f385 := f377.keep Kq381 (ninS n342 nin0)
            have f386 := f378.keep Kq381 (ninS n342 nin0)
            have f387 := f379.keep Kq381 (ninS n341 nin0)
            have Z381 := Nat.le_trans Z373 Kq381.1
            have hk381 := Nat.le_trans hk373 Kq381.1
            have H_381 := CHv.keep Kq381 (allS (safe_arv C315.2.1.alike f380 (by decide)) all0) H_373
            have R_381 := R_373.trans (CHr.keep Kq381 (allS (safe_arv C315.2.1.alike f380 (by decide)) all0) H_373)
            refine ret1 ?_
            refine g_istore C315 X381 at_382 384 (w := (Int32.ofNat (((bl ++ decI ln1) ++ [58]) ++ decI p5).length)) rfl (ls' := #[iv p0, iv p1, iv p2, iv p3, iv p4, iv p5, iv 1, iv 0, iv z8, iv (p1 &&& (255 : Int32)).toUInt32.toUInt16.toUInt32.toInt32, iv (p2 &&& (255 : Int32)).toUInt32.toUInt16.toUInt32.toInt32, iv (p3 &&& (255 : Int32)).toUInt32.toUInt16.toUInt32.toInt32, rv o31, rv b202, iv ln1, rv b284, rv o4315, rv b340, iv (Int32.ofNat (((bl ++ decI ln1) ++ [58]) ++ decI p5).length)]) rfl ?_
            obtain ⟨fl, efl⟩ : ∃ l : List Int32, l = (((bl ++ decI ln1) ++ [58]) ++ decI p5) := ⟨_, rfl⟩
            have yb5 : Arv Z T381.heap b340 ki340 .char 28 (fl.map Value.int) (.int 0) := by rw [efl]; exact q381_0
            rw [← efl]
            have hfm := fin_own ebl etx efl
            have h28 : fl.length ≤ 28 := by rw [efl]; simp only [List.length_append, List.length_cons, List.length_nil] at hb1 ⊢; omega
            refine g_aload C315 X381 at_384 386 rfl rfl ?_
            refine g_callV0 C315 X381 (b_23 hw) f384 at_386 [] [] 0 (rm15_s hw Z381 f384 f385 f386 f387 f382 hcs) N381 pd_9 rfl 389 (fun T388 _ X388 N388 e388 => ?_)
            refine g_iload C315 X388 at_389 391 rfl ?_
            refine g_icmp_ne C315 X388 at_391 784 394 (fun hc391 => absurd (by rw [hfm, List.length_map]) hc391) (fun hc391 => ?_)
            refine g_aload C315 X388 at_394 396 rfl rfl ?_
            refine g_aload C315 X388 at_396 398 rfl rfl ?_
            refine g_iload C315 X388 at_398 400 rfl ?_
            refine g_iconst C315 X388 at_400 401 (v := 0) rfl ?_
            refine g_callS0 C315 X388 (b_24 hw) at_401 [(.ref o4315), (.ref b340), (.int (Int32.ofNat fl.length)), (.int 0)] [] 0 (rm39 hw Z381 f384 f385 f386 f387 yb5 f382 f383 hcs hwf rfl (ixr 0) (by decide) hfm h28) N388 pd_41 e388 404 (fun T389 _ X389 N389 e389 => ?_)
            refine g_if_eq C315 X389 at_404 784 407 (fun hc404 => absurd hc404 (by decide)) (fun hc404 => ?_)
            refine g_aload C315 X389 at_407 409 rfl rfl ?_
            refine g_aload C315 X389 at_409 411 rfl rfl ?_
            refine g_iload C315 X389 at_411 413 rfl ?_
            refine g_iconst C315 X389 at_413 414 (v := 1) rfl ?_
            refine g_callS0 C315 X389 (b_24 hw) at_414 [(.ref o4315), (.ref b340), (.int (Int32.ofNat fl.length)), (.int 1)] [] 0 (rm39 hw Z381 f384 f385 f386 f387 yb5 f382 f383 hcs hwf rfl (ixr 1) (by decide) hfm h28) N389 pd_41 e389 417 (fun T390 _ X390 N390 e390 => ?_)
            refine g_if_eq C315 X390 at_417 784 420 (fun hc417 => absurd hc417 (by decide)) (fun hc417 => ?_)
            refine g_aload C315 X390 at_420 422 rfl rfl ?_
            refine g_aload C315 X390 at_422 424 rfl rfl ?_
            refine g_iload C315 X390 at_424 426 rfl ?_
            refine g_iconst C315 X390 at_426 427 (v := 2) rfl ?_
            refine g_callS0 C315 X390 (b_24 hw) at_427 [(.ref o4315), (.ref b340), (.int (Int32.ofNat fl.length)), (.int 2)] [] 0 (rm39 hw Z381 f384 f385 f386 f387 yb5 f382 f383 hcs hwf rfl (ixr 2) (by decide) hfm h28) N390 pd_41 e390 430 (fun T391 _ X391 N391 e391 => ?_)
            refine g_if_eq C315 X391 at_430 784 433 (fun hc430 => absurd hc430 (by decide)) (fun hc430 => ?_)
            refine g_aload C315 X391 at_433 435 rfl rfl ?_
            refine g_aload C315 X391 at_435 437 rfl rfl ?_
            refine g_iload C315 X391 at_437 439 rfl ?_
            refine g_iconst C315 X391 at_439 440 (v := 3) rfl ?_
            refine g_callS0 C315 X391 (b_24 hw) at_440 [(.ref o4315), (.ref b340), (.int (Int32.ofNat fl.length)), (.int 3)] [] 0 (rm39 hw Z381 f384 f385 f386 f387 yb5 f382 f383 hcs hwf rfl (ixr 3) (by decide) hfm h28) N391 pd_41 e391 443 (fun T392 _ X392 N392 e392 => ?_)
            refine g_if_eq C315 X392 at_443 784 446 (fun hc443 => absurd hc443 (by decide)) (fun hc443 => ?_)
            refine g_aload C315 X392 at_446 448 rfl rfl ?_
            refine g_aload C315 X392 at_448 450 rfl rfl ?_
            refine g_iload C315 X392 at_450 452 rfl ?_
            refine g_iconst C315 X392 at_452 453 (v := 4) rfl ?_
            refine g_callS0 C315 X392 (b_24 hw) at_453 [(.ref o4315), (.ref b340), (.int (Int32.ofNat fl.length)), (.int 4)] [] 0 (rm39 hw Z381 f384 f385 f386 f387 yb5 f382 f383 hcs hwf rfl (ixr 4) (by decide) hfm h28) N392 pd_41 e392 456 (fun T393 _ X393 N393 e393 => ?_)
            refine g_if_eq C315 X393 at_456 784 459 (fun hc456 => absurd hc456 (by decide)) (fun hc456 => ?_)
            refine g_aload C315 X393 at_459 461 rfl rfl ?_
            refine g_aload C315 X393 at_461 463 rfl rfl ?_
            refine g_iload C315 X393 at_463 465 rfl ?_
            refine g_iconst C315 X393 at_465 466 (v := 5) rfl ?_
            refine g_callS0 C315 X393 (b_24 hw) at_466 [(.ref o4315), (.ref b340), (.int (Int32.ofNat fl.length)), (.int 5)] [] 0 (rm39 hw Z381 f384 f385 f386 f387 yb5 f382 f383 hcs hwf rfl (ixr 5) (by decide) hfm h28) N393 pd_41 e393 469 (fun T394 _ X394 N394 e394 => ?_)
            refine g_if_eq C315 X394 at_469 784 472 (fun hc469 => absurd hc469 (by decide)) (fun hc469 => ?_)
            refine g_aload C315 X394 at_472 474 rfl rfl ?_
            refine g_aload C315 X394 at_474 476 rfl rfl ?_
            refine g_iload C315 X394 at_476 478 rfl ?_
            refine g_bipush C315 X394 at_478 480 (v := 6) rfl ?_
            refine g_callS0 C315 X394 (b_24 hw) at_480 [(.ref o4315), (.ref b340), (.int (Int32.ofNat fl.length)), (.int 6)] [] 0 (rm39 hw Z381 f384 f385 f386 f387 yb5 f382 f383 hcs hwf rfl (ixr 6) (by decide) hfm h28) N394 pd_41 e394 483 (fun T395 _ X395 N395 e395 => ?_)
            refine g_if_eq C315 X395 at_483 784 486 (fun hc483 => absurd hc483 (by decide)) (fun hc483 => ?_)
            refine g_aload C315 X395 at_486 488 rfl rfl ?_
            refine g_aload C315 X395 at_488 490 rfl rfl ?_
            refine g_iload C315 X395 at_490 492 rfl ?_
            refine g_bipush C315 X395 at_492 494 (v := 7) rfl ?_
            refine g_callS0 C315 X395 (b_24 hw) at_494 [(.ref o4315), (.ref b340), (.int (Int32.ofNat fl.length)), (.int 7)] [] 0 (rm39 hw Z381 f384 f385 f386 f387 yb5 f382 f383 hcs hwf rfl (ixr 7) (by decide) hfm h28) N395 pd_41 e395 497 (fun T396 _ X396 N396 e396 => ?_)
            refine g_if_eq C315 X396 at_497 784 500 (fun hc497 => absurd hc497 (by decide)) (fun hc497 => ?_)
            refine g_aload C315 X396 at_500 502 rfl rfl ?_
            refine g_aload C315 X396 at_502 504 rfl rfl ?_
            refine g_iload C315 X396 at_504 506 rfl ?_
            refine g_bipush C315 X396 at_506 508 (v := 8) rfl ?_
            refine g_callS0 C315 X396 (b_24 hw) at_508 [(.ref o4315), (.ref b340), (.int (Int32.ofNat fl.length)), (.int 8)] [] 0 (rm39 hw Z381 f384 f385 f386 f387 yb5 f382 f383 hcs hwf rfl (ixr 8) (by decide) hfm h28) N396 pd_41 e396 511 (fun T397 _ X397 N397 e397 => ?_)
            refine g_if_eq C315 X397 at_511 784 514 (fun hc511 => absurd hc511 (by decide)) (fun hc511 => ?_)
            refine g_aload C315 X397 at_514 516 rfl rfl ?_
            refine g_aload C315 X397 at_516 518 rfl rfl ?_
            refine g_iload C315 X397 at_518 520 rfl ?_
            refine g_bipush C315 X397 at_520 522 (v := 9) rfl ?_
            refine g_callS0 C315 X397 (b_24 hw) at_522 [(.ref o4315), (.ref b340), (.int (Int32.ofNat fl.length)), (.int 9)] [] 0 (rm39 hw Z381 f384 f385 f386 f387 yb5 f382 f383 hcs hwf rfl (ixr 9) (by decide) hfm h28) N397 pd_41 e397 525 (fun T398 _ X398 N398 e398 => ?_)
            refine g_if_eq C315 X398 at_525 784 528 (fun hc525 => absurd hc525 (by decide)) (fun hc525 => ?_)
            refine g_aload C315 X398 at_528 530 rfl rfl ?_
            refine g_aload C315 X398 at_530 532 rfl rfl ?_
            refine g_iload C315 X398 at_532 534 rfl ?_
            refine g_bipush C315 X398 at_534 536 (v := 10) rfl ?_
            refine g_callS0 C315 X398 (b_24 hw) at_536 [(.ref o4315), (.ref b340), (.int (Int32.ofNat fl.length)), (.int 10)] [] 0 (rm39 hw Z381 f384 f385 f386 f387 yb5 f382 f383 hcs hwf rfl (ixr 10) (by decide) hfm h28) N398 pd_41 e398 539 (fun T399 _ X399 N399 e399 => ?_)
            refine g_if_eq C315 X399 at_539 784 542 (fun hc539 => absurd hc539 (by decide)) (fun hc539 => ?_)
            refine g_aload C315 X399 at_542 544 rfl rfl ?_
            refine g_aload C315 X399 at_544 546 rfl rfl ?_
            refine g_iload C315 X399 at_546 548 rfl ?_
            refine g_bipush C315 X399 at_548 550 (v := 11) rfl ?_
            refine g_callS0 C315 X399 (b_24 hw) at_550 [(.ref o4315), (.ref b340), (.int (Int32.ofNat fl.length)), (.int 11)] [] 0 (rm39 hw Z381 f384 f385 f386 f387 yb5 f382 f383 hcs hwf rfl (ixr 11) (by decide) hfm h28) N399 pd_41 e399 553 (fun T400 _ X400 N400 e400 => ?_)
            refine g_if_eq C315 X400 at_553 784 556 (fun hc553 => absurd hc553 (by decide)) (fun hc553 => ?_)
            refine g_aload C315 X400 at_556 558 rfl rfl ?_
            refine g_aload C315 X400 at_558 560 rfl rfl ?_
            refine g_iload C315 X400 at_560 562 rfl ?_
            refine g_bipush C315 X400 at_562 564 (v := 12) rfl ?_
            refine g_callS0 C315 X400 (b_24 hw) at_564 [(.ref o4315), (.ref b340), (.int (Int32.ofNat fl.length)), (.int 12)] [] 0 (rm39 hw Z381 f384 f385 f386 f387 yb5 f382 f383 hcs hwf rfl (ixr 12) (by decide) hfm h28) N400 pd_41 e400 567 (fun T401 _ X401 N401 e401 => ?_)
            refine g_if_eq C315 X401 at_567 784 570 (fun hc567 => absurd hc567 (by decide)) (fun hc567 => ?_)
            refine g_aload C315 X401 at_570 572 rfl rfl ?_
            refine g_aload C315 X401 at_572 574 rfl rfl ?_
            refine g_iload C315 X401 at_574 576 rfl ?_
            refine g_bipush C315 X401 at_576 578 (v := 13) rfl ?_
            refine g_callS0 C315 X401 (b_24 hw) at_578 [(.ref o4315), (.ref b340), (.int (Int32.ofNat fl.length)), (.int 13)] [] 0 (rm39 hw Z381 f384 f385 f386 f387 yb5 f382 f383 hcs hwf rfl (ixr 13) (by decide) hfm h28) N401 pd_41 e401 581 (fun T402 _ X402 N402 e402 => ?_)
            refine g_if_eq C315 X402 at_581 784 584 (fun hc581 => absurd hc581 (by decide)) (fun hc581 => ?_)
            refine g_aload C315 X402 at_584 586 rfl rfl ?_
            refine g_aload C315 X402 at_586 588 rfl rfl ?_
            refine g_iload C315 X402 at_588 590 rfl ?_
            refine g_bipush C315 X402 at_590 592 (v := 14) rfl ?_
            refine g_callS0 C315 X402 (b_24 hw) at_592 [(.ref o4315), (.ref b340), (.int (Int32.ofNat fl.length)), (.int 14)] [] 0 (rm39 hw Z381 f384 f385 f386 f387 yb5 f382 f383 hcs hwf rfl (ixr 14) (by decide) hfm h28) N402 pd_41 e402 595 (fun T403 _ X403 N403 e403 => ?_)
            refine g_if_eq C315 X403 at_595 784 598 (fun hc595 => absurd hc595 (by decide)) (fun hc595 => ?_)
            refine g_aload C315 X403 at_598 600 rfl rfl ?_
            refine g_aload C315 X403 at_600 602 rfl rfl ?_
            refine g_iload C315 X403 at_602 604 rfl ?_
            refine g_bipush C315 X403 at_604 606 (v := 15) rfl ?_
            refine g_callS0 C315 X403 (b_24 hw) at_606 [(.ref o4315), (.ref b340), (.int (Int32.ofNat fl.length)), (.int 15)] [] 0 (rm39 hw Z381 f384 f385 f386 f387 yb5 f382 f383 hcs hwf rfl (ixr 15) (by decide) hfm h28) N403 pd_41 e403 609 (fun T404 _ X404 N404 e404 => ?_)
            refine g_if_eq C315 X404 at_609 784 612 (fun hc609 => absurd hc609 (by decide)) (fun hc609 => ?_)
            refine g_aload C315 X404 at_612 614 rfl rfl ?_
            refine g_aload C315 X404 at_614 616 rfl rfl ?_
            refine g_iload C315 X404 at_616 618 rfl ?_
            refine g_bipush C315 X404 at_618 620 (v := 16) rfl ?_
            refine g_callS0 C315 X404 (b_24 hw) at_620 [(.ref o4315), (.ref b340), (.int (Int32.ofNat fl.length)), (.int 16)] [] 0 (rm39 hw Z381 f384 f385 f386 f387 yb5 f382 f383 hcs hwf rfl (ixr 16) (by decide) hfm h28) N404 pd_41 e404 623 (fun T405 _ X405 N405 e405 => ?_)
            refine g_if_eq C315 X405 at_623 784 626 (fun hc623 => absurd hc623 (by decide)) (fun hc623 => ?_)
            refine g_aload C315 X405 at_626 628 rfl rfl ?_
            refine g_aload C315 X405 at_628 630 rfl rfl ?_
            refine g_iload C315 X405 at_630 632 rfl ?_
            refine g_bipush C315 X405 at_632 634 (v := 17) rfl ?_
            refine g_callS0 C315 X405 (b_24 hw) at_634 [(.ref o4315), (.ref b340), (.int (Int32.ofNat fl.length)), (.int 17)] [] 0 (rm39 hw Z381 f384 f385 f386 f387 yb5 f382 f383 hcs hwf rfl (ixr 17) (by decide) hfm h28) N405 pd_41 e405 637 (fun T406 _ X406 N406 e406 => ?_)
            refine g_if_eq C315 X406 at_637 784 640 (fun hc637 => absurd hc637 (by decide)) (fun hc637 => ?_)
            refine g_aload C315 X406 at_640 642 rfl rfl ?_
            refine g_aload C315 X406 at_642 644 rfl rfl ?_
            refine g_iload C315 X406 at_644 646 rfl ?_
            refine g_bipush C315 X406 at_646 648 (v := 18) rfl ?_
            refine g_callS0 C315 X406 (b_24 hw) at_648 [(.ref o4315), (.ref b340), (.int (Int32.ofNat fl.length)), (.int 18)] [] 0 (rm39 hw Z381 f384 f385 f386 f387 yb5 f382 f383 hcs hwf rfl (ixr 18) (by decide) hfm h28) N406 pd_41 e406 651 (fun T407 _ X407 N407 e407 => ?_)
            refine g_if_eq C315 X407 at_651 784 654 (fun hc651 => absurd hc651 (by decide)) (fun hc651 => ?_)
            refine g_aload C315 X407 at_654 656 rfl rfl ?_
            refine g_aload C315 X407 at_656 658 rfl rfl ?_
            refine g_iload C315 X407 at_658 660 rfl ?_
            refine g_bipush C315 X407 at_660 662 (v := 19) rfl ?_
            refine g_callS0 C315 X407 (b_24 hw) at_662 [(.ref o4315), (.ref b340), (.int (Int32.ofNat fl.length)), (.int 19)] [] 0 (rm39 hw Z381 f384 f385 f386 f387 yb5 f382 f383 hcs hwf rfl (ixr 19) (by decide) hfm h28) N407 pd_41 e407 665 (fun T408 _ X408 N408 e408 => ?_)
            refine g_if_eq C315 X408 at_665 784 668 (fun hc665 => absurd hc665 (by decide)) (fun hc665 => ?_)
            refine g_aload C315 X408 at_668 670 rfl rfl ?_
            refine g_aload C315 X408 at_670 672 rfl rfl ?_
            refine g_iload C315 X408 at_672 674 rfl ?_
            refine g_bipush C315 X408 at_674 676 (v := 20) rfl ?_
            refine g_callS0 C315 X408 (b_24 hw) at_676 [(.ref o4315), (.ref b340), (.int (Int32.ofNat fl.length)), (.int 20)] [] 0 (rm39 hw Z381 f384 f385 f386 f387 yb5 f382 f383 hcs hwf rfl (ixr 20) (by decide) hfm h28) N408 pd_41 e408 679 (fun T409 _ X409 N409 e409 => ?_)
            refine g_if_eq C315 X409 at_679 784 682 (fun hc679 => absurd hc679 (by decide)) (fun hc679 => ?_)
            refine g_aload C315 X409 at_682 684 rfl rfl ?_
            refine g_aload C315 X409 at_684 686 rfl rfl ?_
            refine g_iload C315 X409 at_686 688 rfl ?_
            refine g_bipush C315 X409 at_688 690 (v := 21) rfl ?_
            refine g_callS0 C315 X409 (b_24 hw) at_690 [(.ref o4315), (.ref b340), (.int (Int32.ofNat fl.length)), (.int 21)] [] 0 (rm39 hw Z381 f384 f385 f386 f387 yb5 f382 f383 hcs hwf rfl (ixr 21) (by decide) hfm h28) N409 pd_41 e409 693 (fun T410 _ X410 N410 e410 => ?_)
            refine g_if_eq C315 X410 at_693 784 696 (fun hc693 => absurd hc693 (by decide)) (fun hc693 => ?_)
            refine g_aload C315 X410 at_696 698 rfl rfl ?_
            refine g_aload C315 X410 at_698 700 rfl rfl ?_
            refine g_iload C315 X410 at_700 702 rfl ?_
            refine g_bipush C315 X410 at_702 704 (v := 22) rfl ?_
            refine g_callS0 C315 X410 (b_24 hw) at_704 [(.ref o4315), (.ref b340), (.int (Int32.ofNat fl.length)), (.int 22)] [] 0 (rm39 hw Z381 f384 f385 f386 f387 yb5 f382 f383 hcs hwf rfl (ixr 22) (by decide) hfm h28) N410 pd_41 e410 707 (fun T411 _ X411 N411 e411 => ?_)
            refine g_if_eq C315 X411 at_707 784 710 (fun hc707 => absurd hc707 (by decide)) (fun hc707 => ?_)
            refine g_aload C315 X411 at_710 712 rfl rfl ?_
            refine g_aload C315 X411 at_712 714 rfl rfl ?_
            refine g_iload C315 X411 at_714 716 rfl ?_
            refine g_bipush C315 X411 at_716 718 (v := 23) rfl ?_
            refine g_callS0 C315 X411 (b_24 hw) at_718 [(.ref o4315), (.ref b340), (.int (Int32.ofNat fl.length)), (.int 23)] [] 0 (rm39 hw Z381 f384 f385 f386 f387 yb5 f382 f383 hcs hwf rfl (ixr 23) (by decide) hfm h28) N411 pd_41 e411 721 (fun T412 _ X412 N412 e412 => ?_)
            refine g_if_eq C315 X412 at_721 784 724 (fun hc721 => absurd hc721 (by decide)) (fun hc721 => ?_)
            refine g_aload C315 X412 at_724 726 rfl rfl ?_
            refine g_aload C315 X412 at_726 728 rfl rfl ?_
            refine g_iload C315 X412 at_728 730 rfl ?_
            refine g_bipush C315 X412 at_730 732 (v := 24) rfl ?_
            refine g_callS0 C315 X412 (b_24 hw) at_732 [(.ref o4315), (.ref b340), (.int (Int32.ofNat fl.length)), (.int 24)] [] 0 (rm39 hw Z381 f384 f385 f386 f387 yb5 f382 f383 hcs hwf rfl (ixr 24) (by decide) hfm h28) N412 pd_41 e412 735 (fun T413 _ X413 N413 e413 => ?_)
            refine g_if_eq C315 X413 at_735 784 738 (fun hc735 => absurd hc735 (by decide)) (fun hc735 => ?_)
            refine g_aload C315 X413 at_738 740 rfl rfl ?_
            refine g_aload C315 X413 at_740 742 rfl rfl ?_
            refine g_iload C315 X413 at_742 744 rfl ?_
            refine g_bipush C315 X413 at_744 746 (v := 25) rfl ?_
            refine g_callS0 C315 X413 (b_24 hw) at_746 [(.ref o4315), (.ref b340), (.int (Int32.ofNat fl.length)), (.int 25)] [] 0 (rm39 hw Z381 f384 f385 f386 f387 yb5 f382 f383 hcs hwf rfl (ixr 25) (by decide) hfm h28) N413 pd_41 e413 749 (fun T414 _ X414 N414 e414 => ?_)
            refine g_if_eq C315 X414 at_749 784 752 (fun hc749 => absurd hc749 (by decide)) (fun hc749 => ?_)
            refine g_aload C315 X414 at_752 754 rfl rfl ?_
            refine g_aload C315 X414 at_754 756 rfl rfl ?_
            refine g_iload C315 X414 at_756 758 rfl ?_
            refine g_bipush C315 X414 at_758 760 (v := 26) rfl ?_
            refine g_callS0 C315 X414 (b_24 hw) at_760 [(.ref o4315), (.ref b340), (.int (Int32.ofNat fl.length)), (.int 26)] [] 0 (rm39 hw Z381 f384 f385 f386 f387 yb5 f382 f383 hcs hwf rfl (ixr 26) (by decide) hfm h28) N414 pd_41 e414 763 (fun T415 _ X415 N415 e415 => ?_)
            refine g_if_eq C315 X415 at_763 784 766 (fun hc763 => absurd hc763 (by decide)) (fun hc763 => ?_)
            refine g_aload C315 X415 at_766 768 rfl rfl ?_
            refine g_aload C315 X415 at_768 770 rfl rfl ?_
            refine g_iload C315 X415 at_770 772 rfl ?_
            refine g_bipush C315 X415 at_772 774 (v := 27) rfl ?_
            refine g_callS0 C315 X415 (b_24 hw) at_774 [(.ref o4315), (.ref b340), (.int (Int32.ofNat fl.length)), (.int 27)] [] 0 (rm39 hw Z381 f384 f385 f386 f387 yb5 f382 f383 hcs hwf rfl (ixr 27) (by decide) hfm h28) N415 pd_41 e415 777 (fun T416 _ X416 N416 e416 => ?_)
            refine g_if_eq C315 X416 at_777 784 780 (fun hc777 => absurd hc777 (by decide)) (fun hc777 => ?_)
            refine g_iconst C315 X416 at_780 781 (v := 1) rfl ?_
            refine g_goto C315 X416 at_781 785 ?_
            exact g_retNH C315 X416 K hS315 hk381 hEL H_381 R_381 (by simp) at_785 (by decide) (by decide) e416 ⟨rfl, N416⟩
        refine g_if_eq C X238 at_191 198 194 (fun hc191 => ?_) (fun hc191 => ?_)
        · refine g_iload C X238 at_198 200 rfl ?_
          exact j200 _
        · refine g_iconst C X238 at_194 195 (v := 0) rfl ?_
          refine g_goto C X238 at_195 200 ?_
          exact j200 _
      · subst hsp
        refine g_iload C X1 at_85 87 rfl ?_
        refine g_if_ne C X1 at_87 105 90 (fun hc87 => ?_) (fun hc87 => absurd hc87 (by decide))
        refine g_iload C X1 at_105 107 rfl ?_
        refine g_iconst C X1 at_107 108 (v := 1) rfl ?_
        refine g_icmp_ne C X1 at_108 131 111 (fun hc108 => ?_) (fun hc108 => absurd hc108 (by decide))
        refine g_iload C X1 at_131 133 rfl ?_
        refine g_iconst C X1 at_133 134 (v := 2) rfl ?_
        refine g_icmp_ne C X1 at_134 162 137 (fun hc134 => absurd hc134 (by decide)) (fun hc134 => ?_)
        refine g_new C X1 (w_51 hw) (w_10 hw) (w_2 hw) rfl at_137 140 (by decide) (by decide) (fun T417 h417 b417 X417 e417 g417 E417 A417 D417 => ?_)
        have n418 : o7 ≠ b417 := Nat.ne_of_lt (Nat.lt_of_lt_of_eq f8.lt g417.symm)
        have n419 : o8 ≠ b417 := Nat.ne_of_lt (Nat.lt_of_lt_of_eq f9.lt g417.symm)
        have f420 := f4.ext E417
        have f421 := f5.ext E417
        have f422 := f6.ext E417
        have f423 := f7.ext E417
        have f424 := f8.ext E417
        have f425 := f9.ext E417
        have gn_b417 : n0 ≤ b417 := Nat.le_trans Z1 (Nat.le_of_eq g417.symm)
        have Z417 := Nat.le_trans Z1 E417.1
        have hk417 := Nat.le_trans hk1 E417.1
        have H_417 := H_1.ext E417
        have R_417 := R_1.trans (CHr.ext E417 H_1)
        have sf_b417_417 := Safe.ext E417 H_1 (Safe.new (Nat.le_of_eq g417.symm))
        have f426 : OFv Z h417 b417 .null := D417 (Or.inr (w_23 hw)) (ty := (.array .byte)) (by decide)
        have f427 : OFc Z h417 b417 := D417 (Or.inr (w_25 hw)) (ty := .byte) (by decide)
        refine g_dup C X417 at_140 141 rfl ?_
        refine g_iconst C X417 at_141 142 (v := 2) rfl ?_
        refine g_newA (aty := .char) (n := (2 : Int32)) C X417 (cap := 2) (w_52 hw) e417 at_142 144 (by decide) (by decide) (by decide) (by decide) (by decide) (fun T428 h428 b428 ki428 X428 e428 g428 E428 A428 => ?_)
        have n429 : b417 ≠ b428 := Nat.ne_of_lt (Nat.lt_of_lt_of_eq A417.lt g428.symm)
        have n430 : o7 ≠ b428 := Nat.ne_of_lt (Nat.lt_of_lt_of_eq f424.lt g428.symm)
        have n431 : o8 ≠ b428 := Nat.ne_of_lt (Nat.lt_of_lt_of_eq f425.lt g428.symm)
        have f432 := f420.ext E428
        have f433 := f421.ext E428
        have f434 := f422.ext E428
        have f435 := f423.ext E428
        have f436 := f424.ext E428
        have f437 := f425.ext E428
        have f438 := A417.ext E428
        have f439 := f426.ext E428
        have f440 := f427.ext E428
        have gn_b428 : n0 ≤ b428 := Nat.le_trans Z417 (Nat.le_of_eq g428.symm)
        have Z428 := Nat.le_trans Z417 E428.1
        have hk428 := Nat.le_trans hk417 E428.1
        have H_428 := H_417.ext E428
        have R_428 := R_417.trans (CHr.ext E428 H_417)
        have sf_b417_428 := Safe.ext E428 H_417 sf_b417_417
        have f441 : Arv Z h428 b428 ki428 .char 2 [(.int 0), (.int 0)] (.int 0) := A428.pad (pad_rep [] (.int 0) 2)
        refine g_dup C X428 at_144 145 rfl ?_
        refine g_iconst C X428 at_145 146 (v := 0) rfl ?_
        refine g_iload C X428 at_146 148 rfl ?_
        refine g_castore C X428 (i := 0) e428 f441 (by decide) rfl (Nat.le_of_ble_eq_true rfl) at_148 149 (fun T442 h442 X442 e442 W442 A442 => ?_)
        have f443 := f432.wr W442
        have f444 := f433.wr W442
        have f445 := f434.wr W442
        have f446 := f435.wr W442
        have f447 := f436.other W442 n430
        have f448 := f437.other W442 n431
        have f449 := f438.wr W442
        have f450 := f439.other W442 (Or.inl n429)
        have f451 := f440.other W442 (Or.inl n429)
        have f452 : Arv Z h442 b428 ki428 .char 2 [(.int (nar .char (p1 &&& (255 : Int32)).toUInt32.toUInt16.toUInt32.toInt32)), (.int 0)] (.int 0) := A442
        have N442 := Fr.snoc X442 N1 gn_b428
        have Z442 := Nat.le_trans Z428 (Nat.le_of_eq W442.size.symm)
        have hk442 := Nat.le_trans hk428 (Nat.le_of_eq W442.size.symm)
        have H_442 := H_428.wr W442 (safe_arv C.2.1.alike f441 (by decide))
        have R_442 := R_428.trans (CHr.wr W442 (safe_arv C.2.1.alike f441 (by decide)) H_428)
        have sf_b417_442 := Safe.wr W442 (safe_arv C.2.1.alike f441 (by decide)) H_428 sf_b417_428
        refine g_dup C X442 at_149 150 rfl ?_
        refine g_iconst C X442 at_150 151 (v := 1) rfl ?_
        refine g_iload C X442 at_151 153 rfl ?_
        refine g_castore C X442 (i := 1) e442 f452 (by decide) rfl (Nat.le_of_ble_eq_true rfl) at_153 154 (fun T453 h453 X453 e453 W453 A453 => ?_)
        have f454 := f443.wr W453
        have f455 := f444.wr W453
        have f456 := f445.wr W453
        have f457 := f446.wr W453
        have f458 := f447.other W453 n430
        have f459 := f448.other W453 n431
        have f460 := f449.wr W453
        have f461 := f450.other W453 (Or.inl n429)
        have f462 := f451.other W453 (Or.inl n429)
        have f463 : Arv Z h453 b428 ki428 .char 2 [(.int (nar .char (p1 &&& (255 : Int32)).toUInt32.toUInt16.toUInt32.toInt32)), (.int (nar .char (p2 &&& (255 : Int32)).toUInt32.toUInt16.toUInt32.toInt32))] (.int 0) := A453
        have N453 := Fr.snoc X453 N442 gn_b428
        have Z453 := Nat.le_trans Z442 (Nat.le_of_eq W453.size.symm)
        have hk453 := Nat.le_trans hk442 (Nat.le_of_eq W453.size.symm)
        have H_453 := H_442.wr W453 (safe_arv C.2.1.alike f452 (by decide))
        have R_453 := R_442.trans (CHr.wr W453 (safe_arv C.2.1.alike f452 (by decide)) H_442)
        have sf_b417_453 := Safe.wr W453 (safe_arv C.2.1.alike f452 (by decide)) H_442 sf_b417_442
        refine g_callI C X453 rfl (w_53 hw) (w_54 hw) (w_2 hw) (w_55 hw) at_154 [(.ref b428)] [(.ref b417)] 1 (rm9_2 hw Z453 f460 f461 f462 f463 f454 gn_b417 (own_nc _) (own_nc _) hcs n429) pd_37 e453 157 (fun u464 T464 L464 X464 hQ464 => ?_)
        obtain ⟨o3464, kd3464, rfl, Nq464, szo3464, Kq464, q464_0, q464_1, q464_2, q464_3⟩ := hQ464
        have N464 := Fr.app N453 Nq464
        have f469 := Sta.keepN f454 Kq464 (allS (Exa.ns f460) all0)
        have f470 := Sta.keepN f455 Kq464 (allS (Exa.ns f460) all0)
        have f471 := Sta.keepN f456 Kq464 (allS (Exa.ns f460) all0)
        have f472 := Sta.keepN f457 Kq464 (allS (Exa.ns f460) all0)
        have f473 := f458.keep Kq464 (ninS n418 nin0)
        have f474 := f459.keep Kq464 (ninS n419 nin0)
        have Z464 := Nat.le_trans Z453 Kq464.1
        have hk464 := Nat.le_trans hk453 Kq464.1
        have H_464 := CHv.keep Kq464 (allS sf_b417_453 all0) H_453
        have R_464 := R_453.trans (CHr.keep Kq464 (allS sf_b417_453 all0) H_453)
        refine ret0 ?_
        refine g_astore C X464 at_157 159 rfl (ls' := #[iv p0, iv p1, iv p2, iv p3, iv p4, iv p5, iv 2, iv 0, iv z8, iv (p1 &&& (255 : Int32)).toUInt32.toUInt16.toUInt32.toInt32, iv (p2 &&& (255 : Int32)).toUInt32.toUInt16.toUInt32.toInt32, iv (p3 &&& (255 : Int32)).toUInt32.toUInt16.toUInt32.toInt32, rv o31, rv b417, uu, uu, uu, uu, uu]) rfl ?_
        refine g_goto C X464 at_159 189 ?_
        obtain ⟨q5, e5, h5⟩ : ∃ l : List Int32, l = [(nar .byte (nar .char (p1 &&& (255 : Int32)).toUInt32.toUInt16.toUInt32.toInt32).toInt8.toInt32), (nar .byte (nar .char (p2 &&& (255 : Int32)).toUInt32.toUInt16.toUInt32.toInt32).toInt8.toInt32)] ∧ l.length ≤ 4 := ⟨_, rfl, Nat.le_of_ble_eq_true rfl⟩
        have yq5 : Arv Z T464.heap o3464 kd3464 .byte (Int32.ofNat q5.length) (q5.map Value.int) (.int 0) := by rw [e5]; exact q464_3
        refine g_iload C X464 at_189 191 rfl ?_
        have j200 : ∀ ln1 : Int32, Goes p.tables e below G (T464.setTop (mkF m 200 #[iv p0, iv p1, iv p2, iv p3, iv p4, iv p5, iv 2, iv 0, iv z8, iv (p1 &&& (255 : Int32)).toUInt32.toUInt16.toUInt32.toInt32, iv (p2 &&& (255 : Int32)).toUInt32.toUInt16.toUInt32.toInt32, iv (p3 &&& (255 : Int32)).toUInt32.toUInt16.toUInt32.toInt32, rv o31, rv b417, uu, uu, uu, uu, uu] [(.int ln1)])) := by
          intro ln1
          refine g_istore C X464 at_200 202 (w := ln1) rfl (ls' := #[iv p0, iv p1, iv p2, iv p3, iv p4, iv p5, iv 2, iv 0, iv z8, iv (p1 &&& (255 : Int32)).toUInt32.toUInt16.toUInt32.toInt32, iv (p2 &&& (255 : Int32)).toUInt32.toUInt16.toUInt32.toInt32, iv (p3 &&& (255 : Int32)).toUInt32.toUInt16.toUInt32.toInt32, rv o31, rv b417, iv ln1, uu, uu, uu, uu]) rfl ?_
          by_cases hz : ln1 = (0 : Int32)
          · refine g_new C X464 (w_26 hw) (w_27 hw) (w_28 hw) rfl at_202 205 (by decide) (by decide) (fun T477 h477 b477 X477 e477 g477 E477 A477 D477 => ?_)
            have f488 := q464_0.ext E477
            have gn_b477 : n0 ≤ b477 := Nat.le_trans Z464 (Nat.le_of_eq g477.symm)
            have Z477 := Nat.le_trans Z464 E477.1
            have hk477 := Nat.le_trans hk464 E477.1
            have H_477 := H_464.ext E477
            have R_477 := R_464.trans (CHr.ext E477 H_464)
            have f492 : Fld Z h477 b477 "com/example/mortise/mortise/core/Problem" "path" "Ljava/lang/String;" .null := D477 (Or.inr (w_39 hw)) (ty := (.object "java/lang/String")) (by decide)
            have f493 : Fld Z h477 b477 "com/example/mortise/mortise/core/Problem" "line" "I" (.int 0) := D477 (Or.inr (w_41 hw)) (ty := .int) (by decide)
            have f494 : Fld Z h477 b477 "com/example/mortise/mortise/core/Problem" "column" "I" (.int 0) := D477 (Or.inr (w_43 hw)) (ty := .int) (by decide)
            have f495 : Fld Z h477 b477 "com/example/mortise/mortise/core/Problem" "message" "Ljava/lang/String;" .null := D477 (Or.inr (w_45 hw)) (ty := (.object "java/lang/String")) (by decide)
            refine g_dup C X477 at_205 206 rfl ?_
            refine g_aload C X477 at_206 208 rfl rfl ?_
            refine g_iload C X477 at_208 210 rfl ?_
            refine g_iload C X477 at_210 212 rfl ?_
            refine g_aload C X477 at_212 214 rfl rfl ?_
            refine g_callI C X477 rfl (w_29 hw) (w_30 hw) (w_28 hw) (w_31 hw) at_214 [(.ref b417), (.int ln1), (.int p5), (.ref o31)] [(.ref b477)] 1 (rm6 hw Z477 A477 f492 f493 f494 f495 gn_b477) pd_38 e477 217 (fun u496 T496 L496 X496 hQ496 => ?_)
            obtain ⟨rfl, Nq496, Kq496, q496_0, q496_1, q496_2, q496_3⟩ := hQ496
            have N496 := Fr.app N464 Nq496
            have f503 := f488.keep Kq496
            have Z496 := Nat.le_trans Z477 Kq496.1
            have hk496 := Nat.le_trans hk477 Kq496.1
            have H_496 := CHv.keep Kq496 (allS (Safe.exa C.2.1.alike A477 (by decide) (by decide)) all0) H_477
            have R_496 := R_477.trans (CHr.keep Kq496 (allS (Safe.exa C.2.1.alike A477 (by decide) (by decide)) all0) H_477)
            refine ret0 ?_
            refine g_astore C X496 at_217 219 rfl (ls' := #[iv p0, iv p1, iv p2, iv p3, iv p4, iv p5, iv 2, iv 0, iv z8, iv (p1 &&& (255 : Int32)).toUInt32.toUInt16.toUInt32.toInt32, iv (p2 &&& (255 : Int32)).toUInt32.toUInt16.toUInt32.toInt32, iv (p3 &&& (255 : Int32)).toUInt32.toUInt16.toUInt32.toInt32, rv o31, rv b417, iv ln1, rv b477, uu, uu, uu]) rfl ?_
            refine g_aload C X496 at_219 221 rfl rfl ?_
            refine g_callV0 C X496 (b_21 hw) q496_0 at_221 [] [] 0 (rm8_z hw Z496 q496_1 q496_2 q496_3 hz) N496 pd_23 rfl 224 (fun T508 _ X508 N508 e508 => ?_)
            refine g_astore C X508 at_224 226 rfl (ls' := #[iv p0, iv p1, iv p2, iv p3, iv p4, iv p5, iv 2, iv 0, iv z8, iv (p1 &&& (255 : Int32)).toUInt32.toUInt16.toUInt32.toInt32, iv (p2 &&& (255 : Int32)).toUInt32.toUInt16.toUInt32.toInt32, iv (p3 &&& (255 : Int32)).toUInt32.toUInt16.toUInt32.toInt32, rv o31, rv b417, iv ln1, rv b477, rv b417, uu, uu]) rfl ?_
            refine g_iload C X508 at_226 228 rfl ?_
            refine g_if_ne C X508 at_228 257 231 (fun hc228 => absurd hz hc228) (fun hc228 => ?_)
            refine g_aload C X508 at_231 233 rfl rfl ?_
            refine g_ifnonnullY C X508 at_233 249 ?_
            refine g_aload C X508 at_249 251 rfl rfl ?_
            refine g_aload C X508 at_251 253 rfl rfl ?_
            refine g_callV0 C X508 (b_22 hw) f503 at_253 [(.ref b417)] [] 0 (rm52 hw Z496 rfl) N508 pd_39 e508 256 (fun T509 _ X509 N509 e509 => ?_)
            exact g_retNH C X509 K hS0 hk496 hEL H_496 R_496 (by simp) at_256 (by decide) (by decide) e509 ⟨rfl, N509⟩
          · refine g_new C X464 (w_26 hw) (w_27 hw) (w_28 hw) rfl at_202 205 (by decide) (by decide) (fun T510 h510 b510 X510 e510 g510 E510 A510 D510 => ?_)
            have n511 : b417 ≠ b510 := Nat.ne_of_lt (Nat.lt_of_lt_of_eq q464_0.lt g510.symm)
            have n512 : o3464 ≠ b510 := Nat.ne_of_lt (Nat.lt_of_lt_of_eq yq5.lt g510.symm)
            have n513 : o7 ≠ b510 := Nat.ne_of_lt (Nat.lt_of_lt_of_eq f473.lt g510.symm)
            have n514 : o8 ≠ b510 := Nat.ne_of_lt (Nat.lt_of_lt_of_eq f474.lt g510.symm)
            have f515 := f469.ext E510
            have f516 := f470.ext E510
            have f517 := f471.ext E510
            have f518 := f472.ext E510
            have f519 := f473.ext E510
            have f520 := f474.ext E510
            have f521 := q464_0.ext E510
            have f522 := q464_1.ext E510
            have f523 := q464_2.ext E510
            have f524 := yq5.ext E510
            have gn_b510 : n0 ≤ b510 := Nat.le_trans Z464 (Nat.le_of_eq g510.symm)
            have Z510 := Nat.le_trans Z464 E510.1
            have hk510 := Nat.le_trans hk464 E510.1
            have H_510 := H_464.ext E510
            have R_510 := R_464.trans (CHr.ext E510 H_464)
            have f525 : Fld Z h510 b510 "com/example/mortise/mortise/core/Problem" "path" "Ljava/lang/String;" .null := D510 (Or.inr (w_39 hw)) (ty := (.object "java/lang/String")) (by decide)
            have f526 : Fld Z h510 b510 "com/example/mortise/mortise/core/Problem" "line" "I" (.int 0) := D510 (Or.inr (w_41 hw)) (ty := .int) (by decide)
            have f527 : Fld Z h510 b510 "com/example/mortise/mortise/core/Problem" "column" "I" (.int 0) := D510 (Or.inr (w_43 hw)) (ty := .int) (by decide)
            have f528 : Fld Z h510 b510 "com/example/mortise/mortise/core/Problem" "message" "Ljava/lang/String;" .null := D510 (Or.inr (w_45 hw)) (ty := (.object "java/lang/String")) (by decide)
            refine g_dup C X510 at_205 206 rfl ?_
            refine g_aload C X510 at_206 208 rfl rfl ?_
            refine g_iload C X510 at_208 210 rfl ?_
            refine g_iload C X510 at_210 212 rfl ?_
            refine g_aload C X510 at_212 214 rfl rfl ?_
            refine g_callI C X510 rfl (w_29 hw) (w_30 hw) (w_28 hw) (w_31 hw) at_214 [(.ref b417), (.int ln1), (.int p5), (.ref o31)] [(.ref b510)] 1 (rm6 hw Z510 A510 f525 f526 f527 f528 gn_b510) pd_38 e510 217 (fun u529 T529 L529 X529 hQ529 => ?_)
            obtain ⟨rfl, Nq529, Kq529, q529_0, q529_1, q529_2, q529_3⟩ := hQ529
            have N529 := Fr.app N464 Nq529
            have f530 := Sta.keepN f515 Kq529 (allS (Exa.ns A510) all0)
            have f531 := Sta.keepN f516 Kq529 (allS (Exa.ns A510) all0)
            have f532 := Sta.keepN f517 Kq529 (allS (Exa.ns A510) all0)
            have f533 := Sta.keepN f518 Kq529 (allS (Exa.ns A510) all0)
            have f534 := f519.keep Kq529 (ninS n513 nin0)
            have f535 := f520.keep Kq529 (ninS n514 nin0)
            have f536 := f521.keep Kq529
            have f537 := f522.keep Kq529 (ninS n511 nin0)
            have f538 := f523.keep Kq529 (ninS n511 nin0)
            have f539 := f524.keep Kq529 (ninS n512 nin0)
            have Z529 := Nat.le_trans Z510 Kq529.1
            have hk529 := Nat.le_trans hk510 Kq529.1
            have H_529 := CHv.keep Kq529 (allS (Safe.exa C.2.1.alike A510 (by decide) (by decide)) all0) H_510
            have R_529 := R_510.trans (CHr.keep Kq529 (allS (Safe.exa C.2.1.alike A510 (by decide) (by decide)) all0) H_510)
            refine ret0 ?_
            refine g_astore C X529 at_217 219 rfl (ls' := #[iv p0, iv p1, iv p2, iv p3, iv p4, iv p5, iv 2, iv 0, iv z8, iv (p1 &&& (255 : Int32)).toUInt32.toUInt16.toUInt32.toInt32, iv (p2 &&& (255 : Int32)).toUInt32.toUInt16.toUInt32.toInt32, iv (p3 &&& (255 : Int32)).toUInt32.toUInt16.toUInt32.toInt32, rv o31, rv b417, iv ln1, rv b510, uu, uu, uu]) rfl ?_
            refine g_aload C X529 at_219 221 rfl rfl ?_
            refine g_callVH C X529 hS0 hk529 hEL H_529 (w_46 hw) (w_47 hw) (notFace_of_selects (args := #[]) (mvT C.2.1 (w_49 hw))) (w_49 hw) (w_48 hw) (w_50 hw) (w_28 hw) q529_0 at_221 [] [] 0 (rm8_t hw Z529 hEL q529_0 q529_1 q529_2 q529_3 f536 f537 f538 f539 f532 f533 f534 f535 f530 hcs hz h5) pd_23 rfl 224 (fun u541 T541 L541 C541 X541 hQ541 hS541 A541 => ?_)
            obtain ⟨o4541, o3541, kd3541, rfl, Nq541, szo4541, szo3541, Kq541, q541_0, q541_1, q541_2, q541_3⟩ := hQ541
            have N541 := Fr.app N529 Nq541
            have f552 := Sta.keepN f530 Kq541 all0
            have f553 := Sta.keepN f531 Kq541 all0
            have Z541 := Nat.le_trans Z529 Kq541.1
            have H_541 := A541.1
            have R_541 := R_529.trans A541
            refine ret1 ?_
            refine g_astore C541 X541 at_224 226 rfl (ls' := #[iv p0, iv p1, iv p2, iv p3, iv p4, iv p5, iv 2, iv 0, iv z8, iv (p1 &&& (255 : Int32)).toUInt32.toUInt16.toUInt32.toInt32, iv (p2 &&& (255 : Int32)).toUInt32.toUInt16.toUInt32.toInt32, iv (p3 &&& (255 : Int32)).toUInt32.toUInt16.toUInt32.toInt32, rv o31, rv b417, iv ln1, rv b510, rv o4541, uu, uu]) rfl ?_
            refine g_iload C541 X541 at_226 228 rfl ?_
            refine g_if_ne C541 X541 at_228 257 231 (fun hc228 => ?_) (fun hc228 => absurd hc228 hz)
            obtain ⟨tx, etx⟩ : ∃ l : List Int32, l = txT q5 ln1 p5 := ⟨_, rfl⟩
            have ytx : Arv Z T541.heap o3541 kd3541 .byte (Int32.ofNat tx.length) (tx.map Value.int) (.int 0) := by rw [etx]; exact q541_3
            refine g_aload C541 X541 at_257 259 rfl rfl ?_
            refine g_ifnonnullY C541 X541 at_259 264 ?_
            refine g_bipush C541 X541 at_264 266 (v := 28) rfl ?_
            refine g_newA (aty := .char) (n := (28 : Int32)) C541 X541 (cap := 28) (w_52 hw) rfl at_266 268 (by decide) (by decide) (by decide) (by decide) (by decide) (fun T566 h566 b566 ki566 X566 e566 g566 E566 A566 => ?_)
            have n567 : o3541 ≠ b566 := Nat.ne_of_lt (Nat.lt_of_lt_of_eq ytx.lt g566.symm)
            have n568 : o4541 ≠ b566 := Nat.ne_of_lt (Nat.lt_of_lt_of_eq q541_0.lt g566.symm)
            have f569 := f552.ext E566
            have f570 := f553.ext E566
            have f571 := q541_0.ext E566
            have f572 := q541_1.ext E566
            have f573 := q541_2.ext E566
            have f574 := ytx.ext E566
            have gn_b566 : n0 ≤ b566 := Nat.le_trans Z541 (Nat.le_of_eq g566.symm)
            have Z566 := Nat.le_trans Z541 E566.1
            have hk566 := Nat.le_trans (Nat.le_refl _) E566.1
            have H_566 := H_541.ext E566
            have R_566 := R_541.trans (CHr.ext E566 H_541)
            have f575 : Arv Z h566 b566 ki566 .char 28 [(.int 0), (.int 0), (.int 0), (.int 0), (.int 0), (.int 0), (.int 0), (.int 0), (.int 0), (.int 0), (.int 0), (.int 0), (.int 0), (.int 0), (.int 0), (.int 0), (.int 0), (.int 0), (.int 0), (.int 0), (.int 0), (.int 0), (.int 0), (.int 0), (.int 0), (.int 0), (.int 0), (.int 0)] (.int 0) := A566.pad (pad_rep [] (.int 0) 28)
            refine g_astore C541 X566 at_268 270 rfl (ls' := #[iv p0, iv p1, iv p2, iv p3, iv p4, iv p5, iv 2, iv 0, iv z8, iv (p1 &&& (255 : Int32)).toUInt32.toUInt16.toUInt32.toInt32, iv (p2 &&& (255 : Int32)).toUInt32.toUInt16.toUInt32.toInt32, iv (p3 &&& (255 : Int32)).toUInt32.toUInt16.toUInt32.toInt32, rv o31, rv b417, iv ln1, rv b510, rv o4541, rv b566, uu]) rfl ?_
            refine g_aload C541 X566 at_270 272 rfl rfl ?_
            refine g_ifnonnullY C541 X566 at_272 305 ?_
            refine g_iload C541 X566 at_305 307 rfl ?_
            refine g_istore C541 X566 at_307 309 (w := 2) rfl (ls' := #[iv p0, iv p1, iv p2, iv p3, iv p4, iv p5, iv 2, iv 0, iv z8, iv (p1 &&& (255 : Int32)).toUInt32.toUInt16.toUInt32.toInt32, iv (p2 &&& (255 : Int32)).toUInt32.toUInt16.toUInt32.toInt32, iv (p3 &&& (255 : Int32)).toUInt32.toUInt16.toUInt32.toInt32, rv o31, rv b417, iv ln1, rv b510, rv o4541, rv b566, iv 2]) rfl ?_
            refine g_iload C541 X566 at_309 311 rfl ?_
            refine g_if_le C541 X566 at_311 320 314 (fun hc311 => absurd hc311 (by decide)) (fun hc311 => ?_)
            refine g_aload C541 X566 at_314 316 rfl rfl ?_
            refine g_iconst C541 X566 at_316 317 (v := 0) rfl ?_
            refine g_iload C541 X566 at_317 319 rfl ?_
            refine g_castore C541 X566 (i := 0) e566 f575 (by decide) rfl (Nat.le_of_ble_eq_true rfl) at_319 320 (fun T576 h576 X576 e576 W576 A576 => ?_)
            have f577 := f569.wr W576
            have f578 := f570.wr W576
            have f579 := f571.wr W576
            have f580 := f572.other W576 (Or.inl n568)
            have f581 := f573.other W576 (Or.inl n568)
            have f582 := f574.other W576 n567
            have f583 : Arv Z h576 b566 ki566 .char 28 [(.int (nar .char (p1 &&& (255 : Int32)).toUInt32.toUInt16.toUInt32.toInt32)), (.int 0), (.int 0), (.int 0), (.int 0), (.int 0), (.int 0), (.int 0), (.int 0), (.int 0), (.int 0), (.int 0), (.int 0), (.int 0), (.int 0), (.int 0), (.int 0), (.int 0), (.int 0), (.int 0), (.int 0), (.int 0), (.int 0), (.int 0), (.int 0), (.int 0), (.int 0), (.int 0)] (.int 0) := A576
            have N576 := Fr.snoc X576 N541 gn_b566
            have Z576 := Nat.le_trans Z566 (Nat.le_of_eq W576.size.symm)
            have hk576 := Nat.le_trans hk566 (Nat.le_of_eq W576.size.symm)
            have H_576 := H_566.wr W576 (safe_arv C541.2.1.alike f575 (by decide))
            have R_576 := R_566.trans (CHr.wr W576 (safe_arv C541.2.1.alike f575 (by decide)) H_566)
            refine g_iload C541 X576 at_320 322 rfl ?_
            refine g_iconst C541 X576 at_322 323 (v := 1) rfl ?_
            refine g_icmp_le C541 X576 at_323 332 326 (fun hc323 => absurd hc323 (by decide)) (fun hc323 => ?_)
            refine g_aload C541 X576 at_326 328 rfl rfl ?_
            refine g_iconst C541 X576 at_328 329 (v := 1) rfl ?_
            refine g_iload C541 X576 at_329 331 rfl ?_
            refine g_castore C541 X576 (i := 1) e576 f583 (by decide) rfl (Nat.le_of_ble_eq_true rfl) at_331 332 (fun T584 h584 X584 e584 W584 A584 => ?_)
            have f585 := f577.wr W584
            have f586 := f578.wr W584
            have f587 := f579.wr W584
            have f588 := f580.other W584 (Or.inl n568)
            have f589 := f581.other W584 (Or.inl n568)
            have f590 := f582.other W584 n567
            have f591 : Arv Z h584 b566 ki566 .char 28 [(.int (nar .char (p1 &&& (255 : Int32)).toUInt32.toUInt16.toUInt32.toInt32)), (.int (nar .char (p2 &&& (255 : Int32)).toUInt32.toUInt16.toUInt32.toInt32)), (.int 0), (.int 0), (.int 0), (.int 0), (.int 0), (.int 0), (.int 0), (.int 0), (.int 0), (.int 0), (.int 0), (.int 0), (.int 0), (.int 0), (.int 0), (.int 0), (.int 0), (.int 0), (.int 0), (.int 0), (.int 0), (.int 0), (.int 0), (.int 0), (.int 0), (.int 0)] (.int 0) := A584
            have N584 := Fr.snoc X584 N576 gn_b566
            have Z584 := Nat.le_trans Z576 (Nat.le_of_eq W584.size.symm)
            have hk584 := Nat.le_trans hk576 (Nat.le_of_eq W584.size.symm)
            have H_584 := H_576.wr W584 (safe_arv C541.2.1.alike f583 (by decide))
            have R_584 := R_576.trans (CHr.wr W584 (safe_arv C541.2.1.alike f583 (by decide)) H_576)
            refine g_iload C541 X584 at_332 334 rfl ?_
            refine g_iconst C541 X584 at_334 335 (v := 2) rfl ?_
            refine g_icmp_le C541 X584 at_335 344 338 (fun hc335 => ?_) (fun hc335 => absurd hc335 (by decide))
            refine g_aload C541 X584 at_344 346 rfl rfl ?_
            refine g_iload C541 X584 at_346 348 rfl ?_
            refine g_bipush C541 X584 at_348 350 (v := 58) rfl ?_
            refine g_castore C541 X584 (i := 2) e584 f591 (by decide) rfl (Nat.le_of_ble_eq_true rfl) at_350 351 (fun T592 h592 X592 e592 W592 A592 => ?_)
            have f593 := f585.wr W592
            have f594 := f586.wr W592
            have f595 := f587.wr W592
            have f596 := f588.other W592 (Or.inl n568)
            have f597 := f589.other W592 (Or.inl n568)
            have f598 := f590.other W592 n567
            have f599 : Arv Z h592 b566 ki566 .char 28 [(.int (nar .char (p1 &&& (255 : Int32)).toUInt32.toUInt16.toUInt32.toInt32)), (.int (nar .char (p2 &&& (255 : Int32)).toUInt32.toUInt16.toUInt32.toInt32)), (.int (nar .char (58 : Int32))), (.int 0), (.int 0), (.int 0), (.int 0), (.int 0), (.int 0), (.int 0), (.int 0), (.int 0), (.int 0), (.int 0), (.int 0), (.int 0), (.int 0), (.int 0), (.int 0), (.int 0), (.int 0), (.int 0), (.int 0), (.int 0), (.int 0), (.int 0), (.int 0), (.int 0)] (.int 0) := A592
            have N592 := Fr.snoc X592 N584 gn_b566
            have Z592 := Nat.le_trans Z584 (Nat.le_of_eq W592.size.symm)
            have hk592 := Nat.le_trans hk584 (Nat.le_of_eq W592.size.symm)
            have H_592 := H_584.wr W592 (safe_arv C541.2.1.alike f591 (by decide))
            have R_592 := R_584.trans (CHr.wr W592 (safe_arv C541.2.1.alike f591 (by decide)) H_584)
            have yb7 : Arv Z h592 b566 ki566 .char 28 [(.int (nar .char (p1 &&& (255 : Int32)).toUInt32.toUInt16.toUInt32.toInt32)), (.int (nar .char (p2 &&& (255 : Int32)).toUInt32.toUInt16.toUInt32.toInt32)), (.int (nar .char (58 : Int32)))] (.int 0) := f599.pad (fun i => (pad_rep [(.int (nar .char (p1 &&& (255 : Int32)).toUInt32.toUInt16.toUInt32.toInt32)), (.int (nar .char (p2 &&& (255 : Int32)).toUInt32.toUInt16.toUInt32.toInt32)), (.int (nar .char (58 : Int32)))] (.int 0) 25 i).symm)
            obtain ⟨bl, ebl⟩ : ∃ l : List Int32, l = (q5 ++ [58]).map own_ch := ⟨_, rfl⟩
            have yb6 : Arv Z h592 b566 ki566 .char 28 (bl.map Value.int) (.int 0) := by rw [ebl, e5]; simp only [List.cons_append, List.nil_append, List.map_cons, List.map_nil, own_bk, own58, own110, own117, own108]; exact yb7
            have hbl : bl.length = 3 := by rw [ebl, e5]; rfl
            have q1 := decI_length ln1
            have q2 := decI_length p5
            have hb1 : (bl ++ decI ln1).length ≤ 16 := by rw [List.length_append]; omega
            refine g_aload C541 X592 at_351 353 rfl rfl ?_
            refine g_iload C541 X592 at_353 355 rfl ?_
            refine g_iconst C541 X592 at_355 356 (v := 1) rfl ?_
            refine g_iadd C541 X592 at_356 357 ?_
            rw [show (2 : Int32) + 1 = 3 from by decide]
            refine g_iload C541 X592 at_357 359 rfl ?_
            refine g_callS C541 X592 (w_191 hw) (w_192 hw) (w_193 hw) (w_194 hw) at_359 [(.ref b566), (.int 3), (.int ln1)] [] 0 (rm36 hw Z592 yb6 gn_b566 (by rw [hbl]; rfl) (by rw [hbl]; decide)) pd_40 e592 362 (fun u600 T600 L600 X600 hQ600 => ?_)
            obtain ⟨rfl, Nq600, Kq600, q600_0⟩ := hQ600
            have N600 := Fr.app N592 Nq600
            have f601 := Sta.keepN f593 Kq600 (allS (Arv.nostat yb6) all0)
            have f602 := Sta.keepN f594 Kq600 (allS (Arv.nostat yb6) all0)
            have f603 := f595.keep Kq600
            have f604 := f596.keep Kq600 (ninS n568 nin0)
            have f605 := f597.keep Kq600 (ninS n568 nin0)
            have f606 := f598.keep Kq600 (ninS n567 nin0)
            have Z600 := Nat.le_trans Z592 Kq600.1
            have hk600 := Nat.le_trans hk592 Kq600.1
            have H_600 := CHv.keep Kq600 (allS (safe_arv C541.2.1.alike yb6 (by decide)) all0) H_592
            have R_600 := R_592.trans (CHr.keep Kq600 (allS (safe_arv C541.2.1.alike yb6 (by decide)) all0) H_592)
            refine ret1 ?_
            refine g_istore C541 X600 at_362 364 (w := (Int32.ofNat (bl ++ decI ln1).length)) rfl (ls' := #[iv p0, iv p1, iv p2, iv p3, iv p4, iv p5, iv 2, iv 0, iv z8, iv (p1 &&& (255 : Int32)).toUInt32.toUInt16.toUInt32.toInt32, iv (p2 &&& (255 : Int32)).toUInt32.toUInt16.toUInt32.toInt32, iv (p3 &&& (255 : Int32)).toUInt32.toUInt16.toUInt32.toInt32, rv o31, rv b417, iv ln1, rv b510, rv o4541, rv b566, iv (Int32.ofNat (bl ++ decI ln1).length)]) rfl ?_
            refine g_aload C541 X600 at_364 366 rfl rfl ?_
            refine g_iload C541 X600 at_366 368 rfl ?_
            refine g_bipush C541 X600 at_368 370 (v := 58) rfl ?_
            have fb := q600_0.pad (pad_rep ((bl ++ decI ln1).map Value.int) (.int 0) 1)
            refine g_castore C541 X600 (i := (bl ++ decI ln1).length) rfl fb (set_in (n := (bl ++ decI ln1).length) (m := 28) rfl rfl (by omega) (by decide)) (set_nat (n := (bl ++ decI ln1).length) rfl (by omega)) (set_lt rfl) at_370 371 (fun T607 h607 X607 e607 W607 A607 => ?_)
            have f608 := f601.wr W607
            have f609 := f602.wr W607
            have f610 := f603.wr W607
            have f611 := f604.other W607 (Or.inl n568)
            have f612 := f605.other W607 (Or.inl n568)
            have f613 := f606.other W607 n567
            have f614 : Arv Z h607 b566 ki566 .char 28 (((bl ++ decI ln1) ++ [58]).map Value.int) (.int 0) := (set_app rfl nar58) ▸ A607
            have N607 := Fr.snoc X607 N600 gn_b566
            have Z607 := Nat.le_trans Z600 (Nat.le_of_eq W607.size.symm)
            have hk607 := Nat.le_trans hk600 (Nat.le_of_eq W607.size.symm)
            have H_607 := H_600.wr W607 (safe_arv C541.2.1.alike q600_0 (by decide))
            have R_607 := R_600.trans (CHr.wr W607 (safe_arv C541.2.1.alike q600_0 (by decide)) H_600)
            refine g_aload C541 X607 at_371 373 rfl rfl ?_
            refine g_iload C541 X607 at_373 375 rfl ?_
            refine g_iconst C541 X607 at_375 376 (v := 1) rfl ?_
            refine g_iadd C541 X607 at_376 377 ?_
            rw [len1 (bl ++ decI ln1) 58]
            refine g_iload C541 X607 at_377 379 rfl ?_
            refine g_callS C541 X607 (w_191 hw) (w_192 hw) (w_193 hw) (w_194 hw) at_379 [(.ref b566), (.int (Int32.ofNat ((bl ++ decI ln1) ++ [58]).length)), (.int p5)] [] 0 (rm36 hw Z607 f614 gn_b566 rfl (by rw [List.length_append]; exact Nat.succ_le_succ hb1)) pd_40 e607 382 (fun u615 T615 L615 X615 hQ615 => ?_)
            obtain ⟨rfl, Nq615, Kq615, q615_0⟩ := hQ615
            have N615 := Fr.app N607 Nq615
            have f616 := Sta.keepN f608 Kq615 (allS (Arv.nostat f614) all0)
            have f617 := Sta.keepN f609 Kq615 (allS (Arv.nostat f614) all0)
            have f618 := f610.keep Kq615
            have f619 := f611.keep Kq615 (ninS n568 nin0)
            have f620 := f612.keep Kq615 (ninS n568 nin0)
            have f621 := f613.keep Kq615 (ninS n567 nin0)
            have Z615 := Nat.le_trans Z607 Kq615.1
            have hk615 := Nat.le_trans hk607 Kq615.1
            have H_615 := CHv.keep Kq615 (allS (safe_arv C541.2.1.alike f614 (by decide)) all0) H_607
            have R_615 := R_607.trans (CHr.keep Kq615 (allS (safe_arv C541.2.1.alike f614 (by decide)) all0) H_607)
            refine ret1 ?_
            refine g_istore C541 X615 at_382 384 (w := (Int32.ofNat (((bl ++ decI ln1) ++ [58]) ++ decI p5).length)) rfl (ls' := #[iv p0, iv p1, iv p2, iv p3, iv p4, iv p5, iv 2, iv 0, iv z8, iv (p1 &&& (255 : Int32)).toUInt32.toUInt16.toUInt32.toInt32, iv (p2 &&& (255 : Int32)).toUInt32.toUInt16.toUInt32.toInt32, iv (p3 &&& (255 : Int32)).toUInt32.toUInt16.toUInt32.toInt32, rv o31, rv b417, iv ln1, rv b510, rv o4541, rv b566, iv (Int32.ofNat (((bl ++ decI ln1) ++ [58]) ++ decI p5).length)]) rfl ?_
            obtain ⟨fl, efl⟩ : ∃ l : List Int32, l = (((bl ++ decI ln1) ++ [58]) ++ decI p5) := ⟨_, rfl⟩
            have yb5 : Arv Z T615.heap b566 ki566 .char 28 (fl.map Value.int) (.int 0) := by rw [efl]; exact q615_0
            rw [← efl]
            have hfm := fin_own ebl etx efl
            have h28 : fl.length ≤ 28 := by rw [efl]; simp only [List.length_append, List.length_cons, List.length_nil] at hb1 ⊢; omega
            refine g_aload C541 X615 at_384 386 rfl rfl ?_
            refine g_callV0 C541 X615 (b_23 hw) f618 at_386 [] [] 0 (rm15_s hw Z615 f618 f619 f620 f621 f616 hcs) N615 pd_9 rfl 389 (fun T622 _ X622 N622 e622 => ?_)
            refine g_iload C541 X622 at_389 391 rfl ?_
            refine g_icmp_ne C541 X622 at_391 784 394 (fun hc391 => absurd (by rw [hfm, List.length_map]) hc391) (fun hc391 => ?_)
            refine g_aload C541 X622 at_394 396 rfl rfl ?_
            refine g_aload C541 X622 at_396 398 rfl rfl ?_
            refine g_iload C541 X622 at_398 400 rfl ?_
            refine g_iconst C541 X622 at_400 401 (v := 0) rfl ?_
            refine g_callS0 C541 X622 (b_24 hw) at_401 [(.ref o4541), (.ref b566), (.int (Int32.ofNat fl.length)), (.int 0)] [] 0 (rm39 hw Z615 f618 f619 f620 f621 yb5 f616 f617 hcs hwf rfl (ixr 0) (by decide) hfm h28) N622 pd_41 e622 404 (fun T623 _ X623 N623 e623 => ?_)
            refine g_if_eq C541 X623 at_404 784 407 (fun hc404 => absurd hc404 (by decide)) (fun hc404 => ?_)
            refine g_aload C541 X623 at_407 409 rfl rfl ?_
            refine g_aload C541 X623 at_409 411 rfl rfl ?_
            refine g_iload C541 X623 at_411 413 rfl ?_
            refine g_iconst C541 X623 at_413 414 (v := 1) rfl ?_
            refine g_callS0 C541 X623 (b_24 hw) at_414 [(.ref o4541), (.ref b566), (.int (Int32.ofNat fl.length)), (.int 1)] [] 0 (rm39 hw Z615 f618 f619 f620 f621 yb5 f616 f617 hcs hwf rfl (ixr 1) (by decide) hfm h28) N623 pd_41 e623 417 (fun T624 _ X624 N624 e624 => ?_)
            refine g_if_eq C541 X624 at_417 784 420 (fun hc417 => absurd hc417 (by decide)) (fun hc417 => ?_)
            refine g_aload C541 X624 at_420 422 rfl rfl ?_
            refine g_aload C541 X624 at_422 424 rfl rfl ?_
            refine g_iload C541 X624 at_424 426 rfl ?_
            refine g_iconst C541 X624 at_426 427 (v := 2) rfl ?_
            refine g_callS0 C541 X624 (b_24 hw) at_427 [(.ref o4541), (.ref b566), (.int (Int32.ofNat fl.length)), (.int 2)] [] 0 (rm39 hw Z615 f618 f619 f620 f621 yb5 f616 f617 hcs hwf rfl (ixr 2) (by decide) hfm h28) N624 pd_41 e624 430 (fun T625 _ X625 N625 e625 => ?_)
            refine g_if_eq C541 X625 at_430 784 433 (fun hc430 => absurd hc430 (by decide)) (fun hc430 => ?_)
            refine g_aload C541 X625 at_433 435 rfl rfl ?_
            refine g_aload C541 X625 at_435 437 rfl rfl ?_
            refine g_iload C541 X625 at_437 439 rfl ?_
            refine g_iconst C541 X625 at_439 440 (v := 3) rfl ?_
            refine g_callS0 C541 X625 (b_24 hw) at_440 [(.ref o4541), (.ref b566), (.int (Int32.ofNat fl.length)), (.int 3)] [] 0 (rm39 hw Z615 f618 f619 f620 f621 yb5 f616 f617 hcs hwf rfl (ixr 3) (by decide) hfm h28) N625 pd_41 e625 443 (fun T626 _ X626 N626 e626 => ?_)
            refine g_if_eq C541 X626 at_443 784 446 (fun hc443 => absurd hc443 (by decide)) (fun hc443 => ?_)
            refine g_aload C541 X626 at_446 448 rfl rfl ?_
            refine g_aload C541 X626 at_448 450 rfl rfl ?_
            refine g_iload C541 X626 at_450 452 rfl ?_
            refine g_iconst C541 X626 at_452 453 (v := 4) rfl ?_
            refine g_callS0 C541 X626 (b_24 hw) at_453 [(.ref o4541), (.ref b566), (.int (Int32.ofNat fl.length)), (.int 4)] [] 0 (rm39 hw Z615 f618 f619 f620 f621 yb5 f616 f617 hcs hwf rfl (ixr 4) (by decide) hfm h28) N626 pd_41 e626 456 (fun T627 _ X627 N627 e627 => ?_)
            refine g_if_eq C541 X627 at_456 784 459 (fun hc456 => absurd hc456 (by decide)) (fun hc456 => ?_)
            refine g_aload C541 X627 at_459 461 rfl rfl ?_
            refine g_aload C541 X627 at_461 463 rfl rfl ?_
            refine g_iload C541 X627 at_463 465 rfl ?_
            refine g_iconst C541 X627 at_465 466 (v := 5) rfl ?_
            refine g_callS0 C541 X627 (b_24 hw) at_466 [(.ref o4541), (.ref b566), (.int (Int32.ofNat fl.length)), (.int 5)] [] 0 (rm39 hw Z615 f618 f619 f620 f621 yb5 f616 f617 hcs hwf rfl (ixr 5) (by decide) hfm h28) N627 pd_41 e627 469 (fun T628 _ X628 N628 e628 => ?_)
            refine g_if_eq C541 X628 at_469 784 472 (fun hc469 => absurd hc469 (by decide)) (fun hc469 => ?_)
            refine g_aload C541 X628 at_472 474 rfl rfl ?_
            refine g_aload C541 X628 at_474 476 rfl rfl ?_
            refine g_iload C541 X628 at_476 478 rfl ?_
            refine g_bipush C541 X628 at_478 480 (v := 6) rfl ?_
            refine g_callS0 C541 X628 (b_24 hw) at_480 [(.ref o4541), (.ref b566), (.int (Int32.ofNat fl.length)), (.int 6)] [] 0 (rm39 hw Z615 f618 f619 f620 f621 yb5 f616 f617 hcs hwf rfl (ixr 6) (by decide) hfm h28) N628 pd_41 e628 483 (fun T629 _ X629 N629 e629 => ?_)
            refine g_if_eq C541 X629 at_483 784 486 (fun hc483 => absurd hc483 (by decide)) (fun hc483 => ?_)
            refine g_aload C541 X629 at_486 488 rfl rfl ?_
            refine g_aload C541 X629 at_488 490 rfl rfl ?_
            refine g_iload C541 X629 at_490 492 rfl ?_
            refine g_bipush C541 X629 at_492 494 (v := 7) rfl ?_
            refine g_callS0 C541 X629 (b_24 hw) at_494 [(.ref o4541), (.ref b566), (.int (Int32.ofNat fl.length)), (.int 7)] [] 0 (rm39 hw Z615 f618 f619 f620 f621 yb5 f616 f617 hcs hwf rfl (ixr 7) (by decide) hfm h28) N629 pd_41 e629 497 (fun T630 _ X630 N630 e630 => ?_)
            refine g_if_eq C541 X630 at_497 784 500 (fun hc497 => absurd hc497 (by decide)) (fun hc497 => ?_)
            refine g_aload C541 X630 at_500 502 rfl rfl ?_
            refine g_aload C541 X630 at_502 504 rfl rfl ?_
            refine g_iload C541 X630 at_504 506 rfl ?_
            refine g_bipush C541 X630 at_506 508 (v := 8) rfl ?_
            refine g_callS0 C541 X630 (b_24 hw) at_508 [(.ref o4541), (.ref b566), (.int (Int32.ofNat fl.length)), (.int 8)] [] 0 (rm39 hw Z615 f618 f619 f620 f621 yb5 f616 f617 hcs hwf rfl (ixr 8) (by decide) hfm h28) N630 pd_41 e630 511 (fun T631 _ X631 N631 e631 => ?_)
            refine g_if_eq C541 X631 at_511 784 514 (fun hc511 => absurd hc511 (by decide)) (fun hc511 => ?_)
            refine g_aload C541 X631 at_514 516 rfl rfl ?_
            refine g_aload C541 X631 at_516 518 rfl rfl ?_
            refine g_iload C541 X631 at_518 520 rfl ?_
            refine g_bipush C541 X631 at_520 522 (v := 9) rfl ?_
            refine g_callS0 C541 X631 (b_24 hw) at_522 [(.ref o4541), (.ref b566), (.int (Int32.ofNat fl.length)), (.int 9)] [] 0 (rm39 hw Z615 f618 f619 f620 f621 yb5 f616 f617 hcs hwf rfl (ixr 9) (by decide) hfm h28) N631 pd_41 e631 525 (fun T632 _ X632 N632 e632 => ?_)
            refine g_if_eq C541 X632 at_525 784 528 (fun hc525 => absurd hc525 (by decide)) (fun hc525 => ?_)
            refine g_aload C541 X632 at_528 530 rfl rfl ?_
            refine g_aload C541 X632 at_530 532 rfl rfl ?_
            refine g_iload C541 X632 at_532 534 rfl ?_
            refine g_bipush C541 X632 at_534 536 (v := 10) rfl ?_
            refine g_callS0 C541 X632 (b_24 hw) at_536 [(.ref o4541), (.ref b566), (.int (Int32.ofNat fl.length)), (.int 10)] [] 0 (rm39 hw Z615 f618 f619 f620 f621 yb5 f616 f617 hcs hwf rfl (ixr 10) (by decide) hfm h28) N632 pd_41 e632 539 (fun T633 _ X633 N633 e633 => ?_)
            refine g_if_eq C541 X633 at_539 784 542 (fun hc539 => absurd hc539 (by decide)) (fun hc539 => ?_)
            refine g_aload C541 X633 at_542 544 rfl rfl ?_
            refine g_aload C541 X633 at_544 546 rfl rfl ?_
            refine g_iload C541 X633 at_546 548 rfl ?_
            refine g_bipush C541 X633 at_548 550 (v := 11) rfl ?_
            refine g_callS0 C541 X633 (b_24 hw) at_550 [(.ref o4541), (.ref b566), (.int (Int32.ofNat fl.length)), (.int 11)] [] 0 (rm39 hw Z615 f618 f619 f620 f621 yb5 f616 f617 hcs hwf rfl (ixr 11) (by decide) hfm h28) N633 pd_41 e633 553 (fun T634 _ X634 N634 e634 => ?_)
            refine g_if_eq C541 X634 at_553 784 556 (fun hc553 => absurd hc553 (by decide)) (fun hc553 => ?_)
            refine g_aload C541 X634 at_556 558 rfl rfl ?_
            refine g_aload C541 X634 at_558 560 rfl rfl ?_
            refine g_iload C541 X634 at_560 562 rfl ?_
            refine g_bipush C541 X634 at_562 564 (v := 12) rfl ?_
            refine g_callS0 C541 X634 (b_24 hw) at_564 [(.ref o4541), (.ref b566), (.int (Int32.ofNat fl.length)), (.int 12)] [] 0 (rm39 hw Z615 f618 f619 f620 f621 yb5 f616 f617 hcs hwf rfl (ixr 12) (by decide) hfm h28) N634 pd_41 e634 567 (fun T635 _ X635 N635 e635 => ?_)
            refine g_if_eq C541 X635 at_567 784 570 (fun hc567 => absurd hc567 (by decide)) (fun hc567 => ?_)
            refine g_aload C541 X635 at_570 572 rfl rfl ?_
            refine g_aload C541 X635 at_572 574 rfl rfl ?_
            refine g_iload C541 X635 at_574 576 rfl ?_
            refine g_bipush C541 X635 at_576 578 (v := 13) rfl ?_
            refine g_callS0 C541 X635 (b_24 hw) at_578 [(.ref o4541), (.ref b566), (.int (Int32.ofNat fl.length)), (.int 13)] [] 0 (rm39 hw Z615 f618 f619 f620 f621 yb5 f616 f617 hcs hwf rfl (ixr 13) (by decide) hfm h28) N635 pd_41 e635 581 (fun T636 _ X636 N636 e636 => ?_)
            refine g_if_eq C541 X636 at_581 784 584 (fun hc581 => absurd hc581 (by decide)) (fun hc581 => ?_)
            refine g_aload C541 X636 at_584 586 rfl rfl ?_
            refine g_aload C541 X636 at_586 588 rfl rfl ?_
            refine g_iload C541 X636 at_588 590 rfl ?_
            refine g_bipush C541 X636 at_590 592 (v := 14) rfl ?_
            refine g_callS0 C541 X636 (b_24 hw) at_592 [(.ref o4541), (.ref b566), (.int (Int32.ofNat fl.length)), (.int 14)] [] 0 (rm39 hw Z615 f618 f619 f620 f621 yb5 f616 f617 hcs hwf rfl (ixr 14) (by decide) hfm h28) N636 pd_41 e636 595 (fun T637 _ X637 N637 e637 => ?_)
            refine g_if_eq C541 X637 at_595 784 598 (fun hc595 => absurd hc595 (by decide)) (fun hc595 => ?_)
            refine g_aload C541 X637 at_598 600 rfl rfl ?_
            refine g_aload C541 X637 at_600 602 rfl rfl ?_
            refine g_iload C541 X637 at_602 604 rfl ?_
            refine g_bipush C541 X637 at_604 606 (v := 15) rfl ?_
            refine g_callS0 C541 X637 (b_24 hw) at_606 [(.ref o4541), (.ref b566), (.int (Int32.ofNat fl.length)), (.int 15)] [] 0 (rm39 hw Z615 f618 f619 f620 f621 yb5 f616 f617 hcs hwf rfl (ixr 15) (by decide) hfm h28) N637 pd_41 e637 609 (fun T638 _ X638 N638 e638 => ?_)
            refine g_if_eq C541 X638 at_609 784 612 (fun hc609 => absurd hc609 (by decide)) (fun hc609 => ?_)
            refine g_aload C541 X638 at_612 614 rfl rfl ?_
            refine g_aload C541 X638 at_614 616 rfl rfl ?_
            refine g_iload C541 X638 at_616 618 rfl ?_
            refine g_bipush C541 X638 at_618 620 (v := 16) rfl ?_
            refine g_callS0 C541 X638 (b_24 hw) at_620 [(.ref o4541), (.ref b566), (.int (Int32.ofNat fl.length)), (.int 16)] [] 0 (rm39 hw Z615 f618 f619 f620 f621 yb5 f616 f617 hcs hwf rfl (ixr 16) (by decide) hfm h28) N638 pd_41 e638 623 (fun T639 _ X639 N639 e639 => ?_)
            refine g_if_eq C541 X639 at_623 784 626 (fun hc623 => absurd hc623 (by decide)) (fun hc623 => ?_)
            refine g_aload C541 X639 at_626 628 rfl rfl ?_
            refine g_aload C541 X639 at_628 630 rfl rfl ?_
            refine g_iload C541 X639 at_630 632 rfl ?_
            refine g_bipush C541 X639 at_632 634 (v := 17) rfl ?_
            refine g_callS0 C541 X639 (b_24 hw) at_634 [(.ref o4541), (.ref b566), (.int (Int32.ofNat fl.length)), (.int 17)] [] 0 (rm39 hw Z615 f618 f619 f620 f621 yb5 f616 f617 hcs hwf rfl (ixr 17) (by decide) hfm h28) N639 pd_41 e639 637 (fun T640 _ X640 N640 e640 => ?_)
            refine g_if_eq C541 X640 at_637 784 640 (fun hc637 => absurd hc637 (by decide)) (fun hc637 => ?_)
            refine g_aload C541 X640 at_640 642 rfl rfl ?_
            refine g_aload C541 X640 at_642 644 rfl rfl ?_
            refine g_iload C541 X640 at_644 646 rfl ?_
            refine g_bipush C541 X640 at_646 648 (v := 18) rfl ?_
            refine g_callS0 C541 X640 (b_24 hw) at_648 [(.ref o4541), (.ref b566), (.int (Int32.ofNat fl.length)), (.int 18)] [] 0 (rm39 hw Z615 f618 f619 f620 f621 yb5 f616 f617 hcs hwf rfl (ixr 18) (by decide) hfm h28) N640 pd_41 e640 651 (fun T641 _ X641 N641 e641 => ?_)
            refine g_if_eq C541 X641 at_651 784 654 (fun hc651 => absurd hc651 (by decide)) (fun hc651 => ?_)
            refine g_aload C541 X641 at_654 656 rfl rfl ?_
            refine g_aload C541 X641 at_656 658 rfl rfl ?_
            refine g_iload C541 X641 at_658 660 rfl ?_
            refine g_bipush C541 X641 at_660 662 (v := 19) rfl ?_
            refine g_callS0 C541 X641 (b_24 hw) at_662 [(.ref o4541), (.ref b566), (.int (Int32.ofNat fl.length)), (.int 19)] [] 0 (rm39 hw Z615 f618 f619 f620 f621 yb5 f616 f617 hcs hwf rfl (ixr 19) (by decide) hfm h28) N641 pd_41 e641 665 (fun T642 _ X642 N642 e642 => ?_)
            refine g_if_eq C541 X642 at_665 784 668 (fun hc665 => absurd hc665 (by decide)) (fun hc665 => ?_)
            refine g_aload C541 X642 at_668 670 rfl rfl ?_
            refine g_aload C541 X642 at_670 672 rfl rfl ?_
            refine g_iload C541 X642 at_672 674 rfl ?_
            refine g_bipush C541 X642 at_674 676 (v := 20) rfl ?_
            refine g_callS0 C541 X642 (b_24 hw) at_676 [(.ref o4541), (.ref b566), (.int (Int32.ofNat fl.length)), (.int 20)] [] 0 (rm39 hw Z615 f618 f619 f620 f621 yb5 f616 f617 hcs hwf rfl (ixr 20) (by decide) hfm h28) N642 pd_41 e642 679 (fun T643 _ X643 N643 e643 => ?_)
            refine g_if_eq C541 X643 at_679 784 682 (fun hc679 => absurd hc679 (by decide)) (fun hc679 => ?_)
            refine g_aload C541 X643 at_682 684 rfl rfl ?_
            refine g_aload C541 X643 at_684 686 rfl rfl ?_
            refine g_iload C541 X643 at_686 688 rfl ?_
            refine g_bipush C541 X643 at_688 690 (v := 21) rfl ?_
            refine g_callS0 C541 X643 (b_24 hw) at_690 [(.ref o4541), (.ref b566), (.int (Int32.ofNat fl.length)), (.int 21)] [] 0 (rm39 hw Z615 f618 f619 f620 f621 yb5 f616 f617 hcs hwf rfl (ixr 21) (by decide) hfm h28) N643 pd_41 e643 693 (fun T644 _ X644 N644 e644 => ?_)
            refine g_if_eq C541 X644 at_693 784 696 (fun hc693 => absurd hc693 (by decide)) (fun hc693 => ?_)
            refine g_aload C541 X644 at_696 698 rfl rfl ?_
            refine g_aload C541 X644 at_698 700 rfl rfl ?_
            refine g_iload C541 X644 at_700 702 rfl ?_
            refine g_bipush C541 X644 at_702 704 (v := 22) rfl ?_
            refine g_callS0 C541 X644 (b_24 hw) at_704 [(.ref o4541), (.ref b566), (.int (Int32.ofNat fl.length)), (.int 22)] [] 0 (rm39 hw Z615 f618 f619 f620 f621 yb5 f616 f617 hcs hwf rfl (ixr 22) (by decide) hfm h28) N644 pd_41 e644 707 (fun T645 _ X645 N645 e645 => ?_)
            refine g_if_eq C541 X645 at_707 784 710 (fun hc707 => absurd hc707 (by decide)) (fun hc707 => ?_)
            refine g_aload C541 X645 at_710 712 rfl rfl ?_
            refine g_aload C541 X645 at_712 714 rfl rfl ?_
            refine g_iload C541 X645 at_714 716 rfl ?_
            refine g_bipush C541 X645 at_716 718 (v := 23) rfl ?_
            refine g_callS0 C541 X645 (b_24 hw) at_718 [(.ref o4541), (.ref b566), (.int (Int32.ofNat fl.length)), (.int 23)] [] 0 (rm39 hw Z615 f618 f619 f620 f621 yb5 f616 f617 hcs hwf rfl (ixr 23) (by decide) hfm h28) N645 pd_41 e645 721 (fun T646 _ X646 N646 e646 => ?_)
            refine g_if_eq C541 X646 at_721 784 724 (fun hc721 => absurd hc721 (by decide)) (fun hc721 => ?_)
            refine g_aload C541 X646 at_724 726 rfl rfl ?_
            refine g_aload C541 X646 at_726 728 rfl rfl ?_
            refine g_iload C541 X646 at_728 730 rfl ?_
            refine g_bipush C541 X646 at_730 732 (v := 24) rfl ?_
            refine g_callS0 C541 X646 (b_24 hw) at_732 [(.ref o4541), (.ref b566), (.int (Int32.ofNat fl.length)), (.int 24)] [] 0 (rm39 hw Z615 f618 f619 f620 f621 yb5 f616 f617 hcs hwf rfl (ixr 24) (by decide) hfm h28) N646 pd_41 e646 735 (fun T647 _ X647 N647 e647 => ?_)
            refine g_if_eq C541 X647 at_735 784 738 (fun hc735 => absurd hc735 (by decide)) (fun hc735 => ?_)
            refine g_aload C541 X647 at_738 740 rfl rfl ?_
            refine g_aload C541 X647 at_740 742 rfl rfl ?_
            refine g_iload C541 X647 at_742 744 rfl ?_
            refine g_bipush C541 X647 at_744 746 (v := 25) rfl ?_
            refine g_callS0 C541 X647 (b_24 hw) at_746 [(.ref o4541), (.ref b566), (.int (Int32.ofNat fl.length)), (.int 25)] [] 0 (rm39 hw Z615 f618 f619 f620 f621 yb5 f616 f617 hcs hwf rfl (ixr 25) (by decide) hfm h28) N647 pd_41 e647 749 (fun T648 _ X648 N648 e648 => ?_)
            refine g_if_eq C541 X648 at_749 784 752 (fun hc749 => absurd hc749 (by decide)) (fun hc749 => ?_)
            refine g_aload C541 X648 at_752 754 rfl rfl ?_
            refine g_aload C541 X648 at_754 756 rfl rfl ?_
            refine g_iload C541 X648 at_756 758 rfl ?_
            refine g_bipush C541 X648 at_758 760 (v := 26) rfl ?_
            refine g_callS0 C541 X648 (b_24 hw) at_760 [(.ref o4541), (.ref b566), (.int (Int32.ofNat fl.length)), (.int 26)] [] 0 (rm39 hw Z615 f618 f619 f620 f621 yb5 f616 f617 hcs hwf rfl (ixr 26) (by decide) hfm h28) N648 pd_41 e648 763 (fun T649 _ X649 N649 e649 => ?_)
            refine g_if_eq C541 X649 at_763 784 766 (fun hc763 => absurd hc763 (by decide)) (fun hc763 => ?_)
            refine g_aload C541 X649 at_766 768 rfl rfl ?_
            refine g_aload C541 X649 at_768 770 rfl rfl ?_
            refine g_iload C541 X649 at_770 772 rfl ?_
            refine g_bipush C541 X649 at_772 774 (v := 27) rfl ?_
            refine g_callS0 C541 X649 (b_24 hw) at_774 [(.ref o4541), (.ref b566), (.int (Int32.ofNat fl.length)), (.int 27)] [] 0 (rm39 hw Z615 f618 f619 f620 f621 yb5 f616 f617 hcs hwf rfl (ixr 27) (by decide) hfm h28) N649 pd_41 e649 777 (fun T650 _ X650 N650 e650 => ?_)
            refine g_if_eq C541 X650 at_777 784 780 (fun hc777 => absurd hc777 (by decide)) (fun hc777 => ?_)
            refine g_iconst C541 X650 at_780 781 (v := 1) rfl ?_
            refine g_goto C541 X650 at_781 785 ?_
            exact g_retNH C541 X650 K hS541 hk615 hEL H_615 R_615 (by simp) at_785 (by decide) (by decide) e650 ⟨rfl, N650⟩
        refine g_if_eq C X464 at_191 198 194 (fun hc191 => ?_) (fun hc191 => ?_)
        · refine g_iload C X464 at_198 200 rfl ?_
          exact j200 _
        · refine g_iconst C X464 at_194 195 (v := 0) rfl ?_
          refine g_goto C X464 at_195 200 ?_
          exact j200 _
      · subst hsp
        refine g_iload C X1 at_85 87 rfl ?_
        refine g_if_ne C X1 at_87 105 90 (fun hc87 => ?_) (fun hc87 => absurd hc87 (by decide))
        refine g_iload C X1 at_105 107 rfl ?_
        refine g_iconst C X1 at_107 108 (v := 1) rfl ?_
        refine g_icmp_ne C X1 at_108 131 111 (fun hc108 => ?_) (fun hc108 => absurd hc108 (by decide))
        refine g_iload C X1 at_131 133 rfl ?_
        refine g_iconst C X1 at_133 134 (v := 2) rfl ?_
        refine g_icmp_ne C X1 at_134 162 137 (fun hc134 => ?_) (fun hc134 => absurd hc134 (by decide))
        refine g_new C X1 (w_51 hw) (w_10 hw) (w_2 hw) rfl at_162 165 (by decide) (by decide) (fun T651 h651 b651 X651 e651 g651 E651 A651 D651 => ?_)
        have n652 : o7 ≠ b651 := Nat.ne_of_lt (Nat.lt_of_lt_of_eq f8.lt g651.symm)
        have n653 : o8 ≠ b651 := Nat.ne_of_lt (Nat.lt_of_lt_of_eq f9.lt g651.symm)
        have f654 := f4.ext E651
        have f655 := f5.ext E651
        have f656 := f6.ext E651
        have f657 := f7.ext E651
        have f658 := f8.ext E651
        have f659 := f9.ext E651
        have gn_b651 : n0 ≤ b651 := Nat.le_trans Z1 (Nat.le_of_eq g651.symm)
        have Z651 := Nat.le_trans Z1 E651.1
        have hk651 := Nat.le_trans hk1 E651.1
        have H_651 := H_1.ext E651
        have R_651 := R_1.trans (CHr.ext E651 H_1)
        have sf_b651_651 := Safe.ext E651 H_1 (Safe.new (Nat.le_of_eq g651.symm))
        have f660 : OFv Z h651 b651 .null := D651 (Or.inr (w_23 hw)) (ty := (.array .byte)) (by decide)
        have f661 : OFc Z h651 b651 := D651 (Or.inr (w_25 hw)) (ty := .byte) (by decide)
        refine g_dup C X651 at_165 166 rfl ?_
        refine g_iconst C X651 at_166 167 (v := 3) rfl ?_
        refine g_newA (aty := .char) (n := (3 : Int32)) C X651 (cap := 3) (w_52 hw) e651 at_167 169 (by decide) (by decide) (by decide) (by decide) (by decide) (fun T662 h662 b662 ki662 X662 e662 g662 E662 A662 => ?_)
        have n663 : b651 ≠ b662 := Nat.ne_of_lt (Nat.lt_of_lt_of_eq A651.lt g662.symm)
        have n664 : o7 ≠ b662 := Nat.ne_of_lt (Nat.lt_of_lt_of_eq f658.lt g662.symm)
        have n665 : o8 ≠ b662 := Nat.ne_of_lt (Nat.lt_of_lt_of_eq f659.lt g662.symm)
        have f666 := f654.ext E662
        have f667 := f655.ext E662
        have f668 := f656.ext E662
        have f669 := f657.ext E662
        have f670 := f658.ext E662
        have f671 := f659.ext E662
        have f672 := A651.ext E662
        have f673 := f660.ext E662
        have f674 := f661.ext E662
        have gn_b662 : n0 ≤ b662 := Nat.le_trans Z651 (Nat.le_of_eq g662.symm)
        have Z662 := Nat.le_trans Z651 E662.1
        have hk662 := Nat.le_trans hk651 E662.1
        have H_662 := H_651.ext E662
        have R_662 := R_651.trans (CHr.ext E662 H_651)
        have sf_b651_662 := Safe.ext E662 H_651 sf_b651_651
        have f675 : Arv Z h662 b662 ki662 .char 3 [(.int 0), (.int 0), (.int 0)] (.int 0) := A662.pad (pad_rep [] (.int 0) 3)
        refine g_dup C X662 at_169 170 rfl ?_
        refine g_iconst C X662 at_170 171 (v := 0) rfl ?_
        refine g_iload C X662 at_171 173 rfl ?_
        refine g_castore C X662 (i := 0) e662 f675 (by decide) rfl (Nat.le_of_ble_eq_true rfl) at_173 174 (fun T676 h676 X676 e676 W676 A676 => ?_)
        have f677 := f666.wr W676
        have f678 := f667.wr W676
        have f679 := f668.wr W676
        have f680 := f669.wr W676
        have f681 := f670.other W676 n664
        have f682 := f671.other W676 n665
        have f683 := f672.wr W676
        have f684 := f673.other W676 (Or.inl n663)
        have f685 := f674.other W676 (Or.inl n663)
        have f686 : Arv Z h676 b662 ki662 .char 3 [(.int (nar .char (p1 &&& (255 : Int32)).toUInt32.toUInt16.toUInt32.toInt32)), (.int 0), (.int 0)] (.int 0) := A676
        have N676 := Fr.snoc X676 N1 gn_b662
        have Z676 := Nat.le_trans Z662 (Nat.le_of_eq W676.size.symm)
        have hk676 := Nat.le_trans hk662 (Nat.le_of_eq W676.size.symm)
        have H_676 := H_662.wr W676 (safe_arv C.2.1.alike f675 (by decide))
        have R_676 := R_662.trans (CHr.wr W676 (safe_arv C.2.1.alike f675 (by decide)) H_662)
        have sf_b651_676 := Safe.wr W676 (safe_arv C.2.1.alike f675 (by decide)) H_662 sf_b651_662
        refine g_dup C X676 at_174 175 rfl ?_
        refine g_iconst C X676 at_175 176 (v := 1) rfl ?_
        refine g_iload C X676 at_176 178 rfl ?_
        refine g_castore C X676 (i := 1) e676 f686 (by decide) rfl (Nat.le_of_ble_eq_true rfl) at_178 179 (fun T687 h687 X687 e687 W687 A687 => ?_)
        have f688 := f677.wr W687
        have f689 := f678.wr W687
        have f690 := f679.wr W687
        have f691 := f680.wr W687
        have f692 := f681.other W687 n664
        have f693 := f682.other W687 n665
        have f694 := f683.wr W687
        have f695 := f684.other W687 (Or.inl n663)
        have f696 := f685.other W687 (Or.inl n663)
        have f697 : Arv Z h687 b662 ki662 .char 3 [(.int (nar .char (p1 &&& (255 : Int32)).toUInt32.toUInt16.toUInt32.toInt32)), (.int (nar .char (p2 &&& (255 : Int32)).toUInt32.toUInt16.toUInt32.toInt32)), (.int 0)] (.int 0) := A687
        have N687 := Fr.snoc X687 N676 gn_b662
        have Z687 := Nat.le_trans Z676 (Nat.le_of_eq W687.size.symm)
        have hk687 := Nat.le_trans hk676 (Nat.le_of_eq W687.size.symm)
        have H_687 := H_676.wr W687 (safe_arv C.2.1.alike f686 (by decide))
        have R_687 := R_676.trans (CHr.wr W687 (safe_arv C.2.1.alike f686 (by decide)) H_676)
        have sf_b651_687 := Safe.wr W687 (safe_arv C.2.1.alike f686 (by decide)) H_676 sf_b651_676
        refine g_dup C X687 at_179 180 rfl ?_
        refine g_iconst C X687 at_180 181 (v := 2) rfl ?_
        refine g_iload C X687 at_181 183 rfl ?_
        refine g_castore C X687 (i := 2) e687 f697 (by decide) rfl (Nat.le_of_ble_eq_true rfl) at_183 184 (fun T698 h698 X698 e698 W698 A698 => ?_)
        have f699 := f688.wr W698
        have f700 := f689.wr W698
        have f701 := f690.wr W698
        have f702 := f691.wr W698
        have f703 := f692.other W698 n664
        have f704 := f693.other W698 n665
        have f705 := f694.wr W698
        have f706 := f695.other W698 (Or.inl n663)
        have f707 := f696.other W698 (Or.inl n663)
        have f708 : Arv Z h698 b662 ki662 .char 3 [(.int (nar .char (p1 &&& (255 : Int32)).toUInt32.toUInt16.toUInt32.toInt32)), (.int (nar .char (p2 &&& (255 : Int32)).toUInt32.toUInt16.toUInt32.toInt32)), (.int (nar .char (p3 &&& (255 : Int32)).toUInt32.toUInt16.toUInt32.toInt32))] (.int 0) := A698
        have N698 := Fr.snoc X698 N687 gn_b662
        have Z698 := Nat.le_trans Z687 (Nat.le_of_eq W698.size.symm)
        have hk698 := Nat.le_trans hk687 (Nat.le_of_eq W698.size.symm)
        have H_698 := H_687.wr W698 (safe_arv C.2.1.alike f697 (by decide))
        have R_698 := R_687.trans (CHr.wr W698 (safe_arv C.2.1.alike f697 (by decide)) H_687)
        have sf_b651_698 := Safe.wr W698 (safe_arv C.2.1.alike f697 (by decide)) H_687 sf_b651_687
        refine g_callI C X698 rfl (w_53 hw) (w_54 hw) (w_2 hw) (w_55 hw) at_184 [(.ref b662)] [(.ref b651)] 1 (rm9_3 hw Z698 f705 f706 f707 f708 f699 gn_b651 (own_nc _) (own_nc _) (own_nc _) hcs n663) pd_37 e698 187 (fun u709 T709 L709 X709 hQ709 => ?_)
        obtain ⟨o3709, kd3709, rfl, Nq709, szo3709, Kq709, q709_0, q709_1, q709_2, q709_3⟩ := hQ709
        have N709 := Fr.app N698 Nq709
        have f714 := Sta.keepN f699 Kq709 (allS (Exa.ns f705) all0)
        have f715 := Sta.keepN f700 Kq709 (allS (Exa.ns f705) all0)
        have f716 := Sta.keepN f701 Kq709 (allS (Exa.ns f705) all0)
        have f717 := Sta.keepN f702 Kq709 (allS (Exa.ns f705) all0)
        have f718 := f703.keep Kq709 (ninS n652 nin0)
        have f719 := f704.keep Kq709 (ninS n653 nin0)
        have Z709 := Nat.le_trans Z698 Kq709.1
        have hk709 := Nat.le_trans hk698 Kq709.1
        have H_709 := CHv.keep Kq709 (allS sf_b651_698 all0) H_698
        have R_709 := R_698.trans (CHr.keep Kq709 (allS sf_b651_698 all0) H_698)
        refine ret0 ?_
        refine g_astore C X709 at_187 189 rfl (ls' := #[iv p0, iv p1, iv p2, iv p3, iv p4, iv p5, iv 3, iv 0, iv z8, iv (p1 &&& (255 : Int32)).toUInt32.toUInt16.toUInt32.toInt32, iv (p2 &&& (255 : Int32)).toUInt32.toUInt16.toUInt32.toInt32, iv (p3 &&& (255 : Int32)).toUInt32.toUInt16.toUInt32.toInt32, rv o31, rv b651, uu, uu, uu, uu, uu]) rfl ?_
        obtain ⟨q5, e5, h5⟩ : ∃ l : List Int32, l = [(nar .byte (nar .char (p1 &&& (255 : Int32)).toUInt32.toUInt16.toUInt32.toInt32).toInt8.toInt32), (nar .byte (nar .char (p2 &&& (255 : Int32)).toUInt32.toUInt16.toUInt32.toInt32).toInt8.toInt32), (nar .byte (nar .char (p3 &&& (255 : Int32)).toUInt32.toUInt16.toUInt32.toInt32).toInt8.toInt32)] ∧ l.length ≤ 4 := ⟨_, rfl, Nat.le_of_ble_eq_true rfl⟩
        have yq5 : Arv Z T709.heap o3709 kd3709 .byte (Int32.ofNat q5.length) (q5.map Value.int) (.int 0) := by rw [e5]; exact q709_3
        refine g_iload C X709 at_189 191 rfl ?_
        have j200 : ∀ ln1 : Int32, Goes p.tables e below G (T709.setTop (mkF m 200 #[iv p0, iv p1, iv p2, iv p3, iv p4, iv p5, iv 3, iv 0, iv z8, iv (p1 &&& (255 : Int32)).toUInt32.toUInt16.toUInt32.toInt32, iv (p2 &&& (255 : Int32)).toUInt32.toUInt16.toUInt32.toInt32, iv (p3 &&& (255 : Int32)).toUInt32.toUInt16.toUInt32.toInt32, rv o31, rv b651, uu, uu, uu, uu, uu] [(.int ln1)])) := by
          intro ln1
          refine g_istore C X709 at_200 202 (w := ln1) rfl (ls' := #[iv p0, iv p1, iv p2, iv p3, iv p4, iv p5, iv 3, iv 0, iv z8, iv (p1 &&& (255 : Int32)).toUInt32.toUInt16.toUInt32.toInt32, iv (p2 &&& (255 : Int32)).toUInt32.toUInt16.toUInt32.toInt32, iv (p3 &&& (255 : Int32)).toUInt32.toUInt16.toUInt32.toInt32, rv o31, rv b651, iv ln1, uu, uu, uu, uu]) rfl ?_
          by_cases hz : ln1 = (0 : Int32)
          · refine g_new C X709 (w_26 hw) (w_27 hw) (w_28 hw) rfl at_202 205 (by decide) (by decide) (fun T722 h722 b722 X722 e722 g722 E722 A722 D722 => ?_)
            have f733 := q709_0.ext E722
            have gn_b722 : n0 ≤ b722 := Nat.le_trans Z709 (Nat.le_of_eq g722.symm)
            have Z722 := Nat.le_trans Z709 E722.1
            have hk722 := Nat.le_trans hk709 E722.1
            have H_722 := H_709.ext E722
            have R_722 := R_709.trans (CHr.ext E722 H_709)
            have f737 : Fld Z h722 b722 "com/example/mortise/mortise/core/Problem" "path" "Ljava/lang/String;" .null := D722 (Or.inr (w_39 hw)) (ty := (.object "java/lang/String")) (by decide)
            have f738 : Fld Z h722 b722 "com/example/mortise/mortise/core/Problem" "line" "I" (.int 0) := D722 (Or.inr (w_41 hw)) (ty := .int) (by decide)
            have f739 : Fld Z h722 b722 "com/example/mortise/mortise/core/Problem" "column" "I" (.int 0) := D722 (Or.inr (w_43 hw)) (ty := .int) (by decide)
            have f740 : Fld Z h722 b722 "com/example/mortise/mortise/core/Problem" "message" "Ljava/lang/String;" .null := D722 (Or.inr (w_45 hw)) (ty := (.object "java/lang/String")) (by decide)
            refine g_dup C X722 at_205 206 rfl ?_
            refine g_aload C X722 at_206 208 rfl rfl ?_
            refine g_iload C X722 at_208 210 rfl ?_
            refine g_iload C X722 at_210 212 rfl ?_
            refine g_aload C X722 at_212 214 rfl rfl ?_
            refine g_callI C X722 rfl (w_29 hw) (w_30 hw) (w_28 hw) (w_31 hw) at_214 [(.ref b651), (.int ln1), (.int p5), (.ref o31)] [(.ref b722)] 1 (rm6 hw Z722 A722 f737 f738 f739 f740 gn_b722) pd_38 e722 217 (fun u741 T741 L741 X741 hQ741 => ?_)
            obtain ⟨rfl, Nq741, Kq741, q741_0, q741_1, q741_2, q741_3⟩ := hQ741
            have N741 := Fr.app N709 Nq741
            have f748 := f733.keep Kq741
            have Z741 := Nat.le_trans Z722 Kq741.1
            have hk741 := Nat.le_trans hk722 Kq741.1
            have H_741 := CHv.keep Kq741 (allS (Safe.exa C.2.1.alike A722 (by decide) (by decide)) all0) H_722
            have R_741 := R_722.trans (CHr.keep Kq741 (allS (Safe.exa C.2.1.alike A722 (by decide) (by decide)) all0) H_722)
            refine ret0 ?_
            refine g_astore C X741 at_217 219 rfl (ls' := #[iv p0, iv p1, iv p2, iv p3, iv p4, iv p5, iv 3, iv 0, iv z8, iv (p1 &&& (255 : Int32)).toUInt32.toUInt16.toUInt32.toInt32, iv (p2 &&& (255 : Int32)).toUInt32.toUInt16.toUInt32.toInt32, iv (p3 &&& (255 : Int32)).toUInt32.toUInt16.toUInt32.toInt32, rv o31, rv b651, iv ln1, rv b722, uu, uu, uu]) rfl ?_
            refine g_aload C X741 at_219 221 rfl rfl ?_
            refine g_callV0 C X741 (b_21 hw) q741_0 at_221 [] [] 0 (rm8_z hw Z741 q741_1 q741_2 q741_3 hz) N741 pd_23 rfl 224 (fun T753 _ X753 N753 e753 => ?_)
            refine g_astore C X753 at_224 226 rfl (ls' := #[iv p0, iv p1, iv p2, iv p3, iv p4, iv p5, iv 3, iv 0, iv z8, iv (p1 &&& (255 : Int32)).toUInt32.toUInt16.toUInt32.toInt32, iv (p2 &&& (255 : Int32)).toUInt32.toUInt16.toUInt32.toInt32, iv (p3 &&& (255 : Int32)).toUInt32.toUInt16.toUInt32.toInt32, rv o31, rv b651, iv ln1, rv b722, rv b651, uu, uu]) rfl ?_
            refine g_iload C X753 at_226 228 rfl ?_
            refine g_if_ne C X753 at_228 257 231 (fun hc228 => absurd hz hc228) (fun hc228 => ?_)
            refine g_aload C X753 at_231 233 rfl rfl ?_
            refine g_ifnonnullY C X753 at_233 249 ?_
            refine g_aload C X753 at_249 251 rfl rfl ?_
            refine g_aload C X753 at_251 253 rfl rfl ?_
            refine g_callV0 C X753 (b_22 hw) f748 at_253 [(.ref b651)] [] 0 (rm52 hw Z741 rfl) N753 pd_39 e753 256 (fun T754 _ X754 N754 e754 => ?_)
            exact g_retNH C X754 K hS0 hk741 hEL H_741 R_741 (by simp) at_256 (by decide) (by decide) e754 ⟨rfl, N754⟩
          · refine g_new C X709 (w_26 hw) (w_27 hw) (w_28 hw) rfl at_202 205 (by decide) (by decide) (fun T755 h755 b755 X755 e755 g755 E755 A755 D755 => ?_)
            have n756 : b651 ≠ b755 := Nat.ne_of_lt (Nat.lt_of_lt_of_eq q709_0.lt g755.symm)
            have n757 : o3709 ≠ b755 := Nat.ne_of_lt (Nat.lt_of_lt_of_eq yq5.lt g755.symm)
            have n758 : o7 ≠ b755 := Nat.ne_of_lt (Nat.lt_of_lt_of_eq f718.lt g755.symm)
            have n759 : o8 ≠ b755 := Nat.ne_of_lt (Nat.lt_of_lt_of_eq f719.lt g755.symm)
            have f760 := f714.ext E755
            have f761 := f715.ext E755
            have f762 := f716.ext E755
            have f763 := f717.ext E755
            have f764 := f718.ext E755
            have f765 := f719.ext E755
            have f766 := q709_0.ext E755
            have f767 := q709_1.ext E755
            have f768 := q709_2.ext E755
            have f769 := yq5.ext E755
            have gn_b755 : n0 ≤ b755 := Nat.le_trans Z709 (Nat.le_of_eq g755.symm)
            have Z755 := Nat.le_trans Z709 E755.1
            have hk755 := Nat.le_trans hk709 E755.1
            have H_755 := H_709.ext E755
            have R_755 := R_709.trans (CHr.ext E755 H_709)
            have f770 : Fld Z h755 b755 "com/example/mortise/mortise/core/Problem" "path" "Ljava/lang/String;" .null := D755 (Or.inr (w_39 hw)) (ty := (.object "java/lang/String")) (by decide)
            have f771 : Fld Z h755 b755 "com/example/mortise/mortise/core/Problem" "line" "I" (.int 0) := D755 (Or.inr (w_41 hw)) (ty := .int) (by decide)
            have f772 : Fld Z h755 b755 "com/example/mortise/mortise/core/Problem" "column" "I" (.int 0) := D755 (Or.inr (w_43 hw)) (ty := .int) (by decide)
            have f773 : Fld Z h755 b755 "com/example/mortise/mortise/core/Problem" "message" "Ljava/lang/String;" .null := D755 (Or.inr (w_45 hw)) (ty := (.object "java/lang/String")) (by decide)
            refine g_dup C X755 at_205 206 rfl ?_
            refine g_aload C X755 at_206 208 rfl rfl ?_
            refine g_iload C X755 at_208 210 rfl ?_
            refine g_iload C X755 at_210 212 rfl ?_
            refine g_aload C X755 at_212 214 rfl rfl ?_
            refine g_callI C X755 rfl (w_29 hw) (w_30 hw) (w_28 hw) (w_31 hw) at_214 [(.ref b651), (.int ln1), (.int p5), (.ref o31)] [(.ref b755)] 1 (rm6 hw Z755 A755 f770 f771 f772 f773 gn_b755) pd_38 e755 217 (fun u774 T774 L774 X774 hQ774 => ?_)
            obtain ⟨rfl, Nq774, Kq774, q774_0, q774_1, q774_2, q774_3⟩ := hQ774
            have N774 := Fr.app N709 Nq774
            have f775 := Sta.keepN f760 Kq774 (allS (Exa.ns A755) all0)
            have f776 := Sta.keepN f761 Kq774 (allS (Exa.ns A755) all0)
            have f777 := Sta.keepN f762 Kq774 (allS (Exa.ns A755) all0)
            have f778 := Sta.keepN f763 Kq774 (allS (Exa.ns A755) all0)
            have f779 := f764.keep Kq774 (ninS n758 nin0)
            have f780 := f765.keep Kq774 (ninS n759 nin0)
            have f781 := f766.keep Kq774
            have f782 := f767.keep Kq774 (ninS n756 nin0)
            have f783 := f768.keep Kq774 (ninS n756 nin0)
            have f784 := f769.keep Kq774 (ninS n757 nin0)
            have Z774 := Nat.le_trans Z755 Kq774.1
            have hk774 := Nat.le_trans hk755 Kq774.1
            have H_774 := CHv.keep Kq774 (allS (Safe.exa C.2.1.alike A755 (by decide) (by decide)) all0) H_755
            have R_774 := R_755.trans (CHr.keep Kq774 (allS (Safe.exa C.2.1.alike A755 (by decide) (by decide)) all0) H_755)
            refine ret0 ?_
            refine g_astore C X774 at_217 219 rfl (ls' := #[iv p0, iv p1, iv p2, iv p3, iv p4, iv p5, iv 3, iv 0, iv z8, iv (p1 &&& (255 : Int32)).toUInt32.toUInt16.toUInt32.toInt32, iv (p2 &&& (255 : Int32)).toUInt32.toUInt16.toUInt32.toInt32, iv (p3 &&& (255 : Int32)).toUInt32.toUInt16.toUInt32.toInt32, rv o31, rv b651, iv ln1, rv b755, uu, uu, uu]) rfl ?_
            refine g_aload C X774 at_219 221 rfl rfl ?_
            refine g_callVH C X774 hS0 hk774 hEL H_774 (w_46 hw) (w_47 hw) (notFace_of_selects (args := #[]) (mvT C.2.1 (w_49 hw))) (w_49 hw) (w_48 hw) (w_50 hw) (w_28 hw) q774_0 at_221 [] [] 0 (rm8_t hw Z774 hEL q774_0 q774_1 q774_2 q774_3 f781 f782 f783 f784 f777 f778 f779 f780 f775 hcs hz h5) pd_23 rfl 224 (fun u786 T786 L786 C786 X786 hQ786 hS786 A786 => ?_)
            obtain ⟨o4786, o3786, kd3786, rfl, Nq786, szo4786, szo3786, Kq786, q786_0, q786_1, q786_2, q786_3⟩ := hQ786
            have N786 := Fr.app N774 Nq786
            have f797 := Sta.keepN f775 Kq786 all0
            have f798 := Sta.keepN f776 Kq786 all0
            have Z786 := Nat.le_trans Z774 Kq786.1
            have H_786 := A786.1
            have R_786 := R_774.trans A786
            refine ret1 ?_
            refine g_astore C786 X786 at_224 226 rfl (ls' := #[iv p0, iv p1, iv p2, iv p3, iv p4, iv p5, iv 3, iv 0, iv z8, iv (p1 &&& (255 : Int32)).toUInt32.toUInt16.toUInt32.toInt32, iv (p2 &&& (255 : Int32)).toUInt32.toUInt16.toUInt32.toInt32, iv (p3 &&& (255 : Int32)).toUInt32.toUInt16.toUInt32.toInt32, rv o31, rv b651, iv ln1, rv b755, rv o4786, uu, uu]) rfl ?_
            refine g_iload C786 X786 at_226 228 rfl ?_
            refine g_if_ne C786 X786 at_228 257 231 (fun hc228 => ?_) (fun hc228 => absurd hc228 hz)
            obtain ⟨tx, etx⟩ : ∃ l : List Int32, l = txT q5 ln1 p5 := ⟨_, rfl⟩
            have ytx : Arv Z T786.heap o3786 kd3786 .byte (Int32.ofNat tx.length) (tx.map Value.int) (.int 0) := by rw [etx]; exact q786_3
            refine g_aload C786 X786 at_257 259 rfl rfl ?_
            refine g_ifnonnullY C786 X786 at_259 264 ?_
            refine g_bipush C786 X786 at_264 266 (v := 28) rfl ?_
            refine g_newA (aty := .char) (n := (28 : Int32)) C786 X786 (cap := 28) (w_52 hw) rfl at_266 268 (by decide) (by decide) (by decide) (by decide) (by decide) (fun T811 h811 b811 ki811 X811 e811 g811 E811 A811 => ?_)
            have n812 : o3786 ≠ b811 := Nat.ne_of_lt (Nat.lt_of_lt_of_eq ytx.lt g811.symm)
            have n813 : o4786 ≠ b811 := Nat.ne_of_lt (Nat.lt_of_lt_of_eq q786_0.lt g811.symm)
            have f814 := f797.ext E811
            have f815 := f798.ext E811
            have f816 := q786_0.ext E811
            have f817 := q786_1.ext E811
            have f818 := q786_2.ext E811
            have f819 := ytx.ext E811
            have gn_b811 : n0 ≤ b811 := Nat.le_trans Z786 (Nat.le_of_eq g811.symm)
            have Z811 := Nat.le_trans Z786 E811.1
            have hk811 := Nat.le_trans (Nat.le_refl _) E811.1
            have H_811 := H_786.ext E811
            have R_811 := R_786.trans (CHr.ext E811 H_786)
            have f820 : Arv Z h811 b811 ki811 .char 28 [(.int 0), (.int 0), (.int 0), (.int 0), (.int 0), (.int 0), (.int 0), (.int 0), (.int 0), (.int 0), (.int 0), (.int 0), (.int 0), (.int 0), (.int 0), (.int 0), (.int 0), (.int 0), (.int 0), (.int 0), (.int 0), (.int 0), (.int 0), (.int 0), (.int 0), (.int 0), (.int 0), (.int 0)] (.int 0) := A811.pad (pad_rep [] (.int 0) 28)
            refine g_astore C786 X811 at_268 270 rfl (ls' := #[iv p0, iv p1, iv p2, iv p3, iv p4, iv p5, iv 3, iv 0, iv z8, iv (p1 &&& (255 : Int32)).toUInt32.toUInt16.toUInt32.toInt32, iv (p2 &&& (255 : Int32)).toUInt32.toUInt16.toUInt32.toInt32, iv (p3 &&& (255 : Int32)).toUInt32.toUInt16.toUInt32.toInt32, rv o31, rv b651, iv ln1, rv b755, rv o4786, rv b811, uu]) rfl ?_
            refine g_aload C786 X811 at_270 272 rfl rfl ?_
            refine g_ifnonnullY C786 X811 at_272 305 ?_
            refine g_iload C786 X811 at_305 307 rfl ?_
            refine g_istore C786 X811 at_307 309 (w := 3) rfl (ls' := #[iv p0, iv p1, iv p2, iv p3, iv p4, iv p5, iv 3, iv 0, iv z8, iv (p1 &&& (255 : Int32)).toUInt32.toUInt16.toUInt32.toInt32, iv (p2 &&& (255 : Int32)).toUInt32.toUInt16.toUInt32.toInt32, iv (p3 &&& (255 : Int32)).toUInt32.toUInt16.toUInt32.toInt32, rv o31, rv b651, iv ln1, rv b755, rv o4786, rv b811, iv 3]) rfl ?_
            refine g_iload C786 X811 at_309 311 rfl ?_
            refine g_if_le C786 X811 at_311 320 314 (fun hc311 => absurd hc311 (by decide)) (fun hc311 => ?_)
            refine g_aload C786 X811 at_314 316 rfl rfl ?_
            refine g_iconst C786 X811 at_316 317 (v := 0) rfl ?_
            refine g_iload C786 X811 at_317 319 rfl ?_
            refine g_castore C786 X811 (i := 0) e811 f820 (by decide) rfl (Nat.le_of_ble_eq_true rfl) at_319 320 (fun T821 h821 X821 e821 W821 A821 => ?_)
            have f822 := f814.wr W821
            have f823 := f815.wr W821
            have f824 := f816.wr W821
            have f825 := f817.other W821 (Or.inl n813)
            have f826 := f818.other W821 (Or.inl n813)
            have f827 := f819.other W821 n812
            have f828 : Arv Z h821 b811 ki811 .char 28 [(.int (nar .char (p1 &&& (255 : Int32)).toUInt32.toUInt16.toUInt32.toInt32)), (.int 0), (.int 0), (.int 0), (.int 0), (.int 0), (.int 0), (.int 0), (.int 0), (.int 0), (.int 0), (.int 0), (.int 0), (.int 0), (.int 0), (.int 0), (.int 0), (.int 0), (.int 0), (.int 0), (.int 0), (.int 0), (.int 0), (.int 0), (.int 0), (.int 0), (.int 0), (.int 0)] (.int 0) := A821
            have N821 := Fr.snoc X821 N786 gn_b811
            have Z821 := Nat.le_trans Z811 (Nat.le_of_eq W821.size.symm)
            have hk821 := Nat.le_trans hk811 (Nat.le_of_eq W821.size.symm)
            have H_821 := H_811.wr W821 (safe_arv C786.2.1.alike f820 (by decide))
            have R_821 := R_811.trans (CHr.wr W821 (safe_arv C786.2.1.alike f820 (by decide)) H_811)
            refine g_iload C786 X821 at_320 322 rfl ?_
            refine g_iconst C786 X821 at_322 323 (v := 1) rfl ?_
            refine g_icmp_le C786 X821 at_323 332 326 (fun hc323 => absurd hc323 (by decide)) (fun hc323 => ?_)
            refine g_aload C786 X821 at_326 328 rfl rfl ?_
            refine g_iconst C786 X821 at_328 329 (v := 1) rfl ?_
            refine g_iload C786 X821 at_329 331 rfl ?_
            refine g_castore C786 X821 (i := 1) e821 f828 (by decide) rfl (Nat.le_of_ble_eq_true rfl) at_331 332 (fun T829 h829 X829 e829 W829 A829 => ?_)
            have f830 := f822.wr W829
            have f831 := f823.wr W829
            have f832 := f824.wr W829
            have f833 := f825.other W829 (Or.inl n813)
            have f834 := f826.other W829 (Or.inl n813)
            have f835 := f827.other W829 n812
            have f836 : Arv Z h829 b811 ki811 .char 28 [(.int (nar .char (p1 &&& (255 : Int32)).toUInt32.toUInt16.toUInt32.toInt32)), (.int (nar .char (p2 &&& (255 : Int32)).toUInt32.toUInt16.toUInt32.toInt32)), (.int 0), (.int 0), (.int 0), (.int 0), (.int 0), (.int 0), (.int 0), (.int 0), (.int 0), (.int 0), (.int 0), (.int 0), (.int 0), (.int 0), (.int 0), (.int 0), (.int 0), (.int 0), (.int 0), (.int 0), (.int 0), (.int 0), (.int 0), (.int 0), (.int 0), (.int 0)] (.int 0) := A829
            have N829 := Fr.snoc X829 N821 gn_b811
            have Z829 := Nat.le_trans Z821 (Nat.le_of_eq W829.size.symm)
            have hk829 := Nat.le_trans hk821 (Nat.le_of_eq W829.size.symm)
            have H_829 := H_821.wr W829 (safe_arv C786.2.1.alike f828 (by decide))
            have R_829 := R_821.trans (CHr.wr W829 (safe_arv C786.2.1.alike f828 (by decide)) H_821)
            refine g_iload C786 X829 at_332 334 rfl ?_
            refine g_iconst C786 X829 at_334 335 (v := 2) rfl ?_
            refine g_icmp_le C786 X829 at_335 344 338 (fun hc335 => absurd hc335 (by decide)) (fun hc335 => ?_)
            refine g_aload C786 X829 at_338 340 rfl rfl ?_
            refine g_iconst C786 X829 at_340 341 (v := 2) rfl ?_
            refine g_iload C786 X829 at_341 343 rfl ?_
            refine g_castore C786 X829 (i := 2) e829 f836 (by decide) rfl (Nat.le_of_ble_eq_true rfl) at_343 344 (fun T837 h837 X837 e837 W837 A837 => ?_)
            have f838 := f830.wr W837
            have f839 := f831.wr W837
            have f840 := f832.wr W837
            have f841 := f833.other W837 (Or.inl n813)
            have f842 := f834.other W837 (Or.inl n813)
            have f843 := f835.other W837 n812
            have f844 : Arv Z h837 b811 ki811 .char 28 [(.int (nar .char (p1 &&& (255 : Int32)).toUInt32.toUInt16.toUInt32.toInt32)), (.int (nar .char (p2 &&& (255 : Int32)).toUInt32.toUInt16.toUInt32.toInt32)), (.int (nar .char (p3 &&& (255 : Int32)).toUInt32.toUInt16.toUInt32.toInt32)), (.int 0), (.int 0), (.int 0), (.int 0), (.int 0), (.int 0), (.int 0), (.int 0), (.int 0), (.int 0), (.int 0), (.int 0), (.int 0), (.int 0), (.int 0), (.int 0), (.int 0), (.int 0), (.int 0), (.int 0), (.int 0), (.int 0), (.int 0), (.int 0), (.int 0)] (.int 0) := A837
            have N837 := Fr.snoc X837 N829 gn_b811
            have Z837 := Nat.le_trans Z829 (Nat.le_of_eq W837.size.symm)
            have hk837 := Nat.le_trans hk829 (Nat.le_of_eq W837.size.symm)
            have H_837 := H_829.wr W837 (safe_arv C786.2.1.alike f836 (by decide))
            have R_837 := R_829.trans (CHr.wr W837 (safe_arv C786.2.1.alike f836 (by decide)) H_829)
            refine g_aload C786 X837 at_344 346 rfl rfl ?_
            refine g_iload C786 X837 at_346 348 rfl ?_
            refine g_bipush C786 X837 at_348 350 (v := 58) rfl ?_
            refine g_castore C786 X837 (i := 3) e837 f844 (by decide) rfl (Nat.le_of_ble_eq_true rfl) at_350 351 (fun T845 h845 X845 e845 W845 A845 => ?_)
            have f846 := f838.wr W845
            have f847 := f839.wr W845
            have f848 := f840.wr W845
            have f849 := f841.other W845 (Or.inl n813)
            have f850 := f842.other W845 (Or.inl n813)
            have f851 := f843.other W845 n812
            have f852 : Arv Z h845 b811 ki811 .char 28 [(.int (nar .char (p1 &&& (255 : Int32)).toUInt32.toUInt16.toUInt32.toInt32)), (.int (nar .char (p2 &&& (255 : Int32)).toUInt32.toUInt16.toUInt32.toInt32)), (.int (nar .char (p3 &&& (255 : Int32)).toUInt32.toUInt16.toUInt32.toInt32)), (.int (nar .char (58 : Int32))), (.int 0), (.int 0), (.int 0), (.int 0), (.int 0), (.int 0), (.int 0), (.int 0), (.int 0), (.int 0), (.int 0), (.int 0), (.int 0), (.int 0), (.int 0), (.int 0), (.int 0), (.int 0), (.int 0), (.int 0), (.int 0), (.int 0), (.int 0), (.int 0)] (.int 0) := A845
            have N845 := Fr.snoc X845 N837 gn_b811
            have Z845 := Nat.le_trans Z837 (Nat.le_of_eq W845.size.symm)
            have hk845 := Nat.le_trans hk837 (Nat.le_of_eq W845.size.symm)
            have H_845 := H_837.wr W845 (safe_arv C786.2.1.alike f844 (by decide))
            have R_845 := R_837.trans (CHr.wr W845 (safe_arv C786.2.1.alike f844 (by decide)) H_837)
            have yb7 : Arv Z h845 b811 ki811 .char 28 [(.int (nar .char (p1 &&& (255 : Int32)).toUInt32.toUInt16.toUInt32.toInt32)), (.int (nar .char (p2 &&& (255 : Int32)).toUInt32.toUInt16.toUInt32.toInt32)), (.int (nar .char (p3 &&& (255 : Int32)).toUInt32.toUInt16.toUInt32.toInt32)), (.int (nar .char (58 : Int32)))] (.int 0) := f852.pad (fun i => (pad_rep [(.int (nar .char (p1 &&& (255 : Int32)).toUInt32.toUInt16.toUInt32.toInt32)), (.int (nar .char (p2 &&& (255 : Int32)).toUInt32.toUInt16.toUInt32.toInt32)), (.int (nar .char (p3 &&& (255 : Int32)).toUInt32.toUInt16.toUInt32.toInt32)), (.int (nar .char (58 : Int32)))] (.int 0) 24 i).symm)
            obtain ⟨bl, ebl⟩ : ∃ l : List Int32, l = (q5 ++ [58]).map own_ch := ⟨_, rfl⟩
            have yb6 : Arv Z h845 b811 ki811 .char 28 (bl.map Value.int) (.int 0) := by rw [ebl, e5]; simp only [List.cons_append, List.nil_append, List.map_cons, List.map_nil, own_bk, own58, own110, own117, own108]; exact yb7
            have hbl : bl.length = 4 := by rw [ebl, e5]; rfl
            have q1 := decI_length ln1
            have q2 := decI_length p5
            have hb1 : (bl ++ decI ln1).length ≤ 16 := by rw [List.length_append]; omega
            refine g_aload C786 X845 at_351 353 rfl rfl ?_
            refine g_iload C786 X845 at_353 355 rfl ?_
            refine g_iconst C786 X845 at_355 356 (v := 1) rfl ?_
            refine g_iadd C786 X845 at_356 357 ?_
            rw [show (3 : Int32) + 1 = 4 from by decide]
            refine g_iload C786 X845 at_357 359 rfl ?_
            refine g_callS C786 X845 (w_191 hw) (w_192 hw) (w_193 hw) (w_194 hw) at_359 [(.ref b811), (.int 4), (.int ln1)] [] 0 (rm36 hw Z845 yb6 gn_b811 (by rw [hbl]; rfl) (by rw [hbl]; decide)) pd_40 e845 362 (fun u853 T853 L853 X853 hQ853 => ?_)
            obtain ⟨rfl, Nq853, Kq853, q853_0⟩ := hQ853
            have N853 := Fr.app N845 Nq853
            have f854 := Sta.keepN f846 Kq853 (allS (Arv.nostat yb6) all0)
            have f855 := Sta.keepN f847 Kq853 (allS (Arv.nostat yb6) all0)
            have f856 := f848.keep Kq853
            have f857 := f849.keep Kq853 (ninS n813 nin0)
            have f858 := f850.keep Kq853 (ninS n813 nin0)
            have f859 := f851.keep Kq853 (ninS n812 nin0)
            have Z853 := Nat.le_trans Z845 Kq853.1
            have hk853 := Nat.le_trans hk845 Kq853.1
            have H_853 := CHv.keep Kq853 (allS (safe_arv C786.2.1.alike yb6 (by decide)) all0) H_845
            have R_853 := R_845.trans (CHr.keep Kq853 (allS (safe_arv C786.2.1.alike yb6 (by decide)) all0) H_845)
            refine ret1 ?_
            refine g_istore C786 X853 at_362 364 (w := (Int32.ofNat (bl ++ decI ln1).length)) rfl (ls' := #[iv p0, iv p1, iv p2, iv p3, iv p4, iv p5, iv 3, iv 0, iv z8, iv (p1 &&& (255 : Int32)).toUInt32.toUInt16.toUInt32.toInt32, iv (p2 &&& (255 : Int32)).toUInt32.toUInt16.toUInt32.toInt32, iv (p3 &&& (255 : Int32)).toUInt32.toUInt16.toUInt32.toInt32, rv o31, rv b651, iv ln1, rv b755, rv o4786, rv b811, iv (Int32.ofNat (bl ++ decI ln1).length)]) rfl ?_
            refine g_aload C786 X853 at_364 366 rfl rfl ?_
            refine g_iload C786 X853 at_366 368 rfl ?_
            refine g_bipush C786 X853 at_368 370 (v := 58) rfl ?_
            have fb := q853_0.pad (pad_rep ((bl ++ decI ln1).map Value.int) (.int 0) 1)
            refine g_castore C786 X853 (i := (bl ++ decI ln1).length) rfl fb (set_in (n := (bl ++ decI ln1).length) (m := 28) rfl rfl (by omega) (by decide)) (set_nat (n := (bl ++ decI ln1).length) rfl (by omega)) (set_lt rfl) at_370 371 (fun T860 h860 X860 e860 W860 A860 => ?_)
            have f861 := f854.wr W860
            have f862 := f855.wr W860
            have f863 := f856.wr W860
            have f864 := f857.other W860 (Or.inl n813)
            have f865 := f858.other W860 (Or.inl n813)
            have f866 := f859.other W860 n812
            have f867 : Arv Z h860 b811 ki811 .char 28 (((bl ++ decI ln1) ++ [58]).map Value.int) (.int 0) := (set_app rfl nar58) ▸ A860
            have N860 := Fr.snoc X860 N853 gn_b811
            have Z860 := Nat.le_trans Z853 (Nat.le_of_eq W860.size.symm)
            have hk860 := Nat.le_trans hk853 (Nat.le_of_eq W860.size.symm)
            have H_860 := H_853.wr W860 (safe_arv C786.2.1.alike q853_0 (by decide))
            have R_860 := R_853.trans (CHr.wr W860 (safe_arv C786.2.1.alike q853_0 (by decide)) H_853)
            refine g_aload C786 X860 at_371 373 rfl rfl ?_
            refine g_iload C786 X860 at_373 375 rfl ?_
            refine g_iconst C786 X860 at_375 376 (v := 1) rfl ?_
            refine g_iadd C786 X860 at_376 377 ?_
            rw [len1 (bl ++ decI ln1) 58]
            refine g_iload C786 X860 at_377 379 rfl ?_
            refine g_callS C786 X860 (w_191 hw) (w_192 hw) (w_193 hw) (w_194 hw) at_379 [(.ref b811), (.int (Int32.ofNat ((bl ++ decI ln1) ++ [58]).length)), (.int p5)] [] 0 (rm36 hw Z860 f867 gn_b811 rfl (by rw [List.length_append]; exact Nat.succ_le_succ hb1)) pd_40 e860 382 (fun u868 T868 L868 X868 hQ868 => ?_)
            obtain ⟨rfl, Nq868, Kq868, q868_0⟩ := hQ868
            have N868 := Fr.app N860 Nq868
            have f869 := Sta.keepN f861 Kq868 (allS (Arv.nostat f867) all0)
            have f870 := Sta.keepN f862 Kq868 (allS (Arv.nostat f867) all0)
            have f871 := f863.keep Kq868
            have f872 := f864.keep Kq868 (ninS n813 nin0)
            have f873 := f865.keep Kq868 (ninS n813 nin0)
            have f874 := f866.keep Kq868 (ninS n812 nin0)
            have Z868 := Nat.le_trans Z860 Kq868.1
            have hk868 := Nat.le_trans hk860 Kq868.1
            have H_868 := CHv.keep Kq868 (allS (safe_arv C786.2.1.alike f867 (by decide)) all0) H_860
            have R_868 := R_860.trans (CHr.keep Kq868 (allS (safe_arv C786.2.1.alike f867 (by decide)) all0) H_860)
            refine ret1 ?_
            refine g_istore C786 X868 at_382 384 (w := (Int32.ofNat (((bl ++ decI ln1) ++ [58]) ++ decI p5).length)) rfl (ls' := #[iv p0, iv p1, iv p2, iv p3, iv p4, iv p5, iv 3, iv 0, iv z8, iv (p1 &&& (255 : Int32)).toUInt32.toUInt16.toUInt32.toInt32, iv (p2 &&& (255 : Int32)).toUInt32.toUInt16.toUInt32.toInt32, iv (p3 &&& (255 : Int32)).toUInt32.toUInt16.toUInt32.toInt32, rv o31, rv b651, iv ln1, rv b755, rv o4786, rv b811, iv (Int32.ofNat (((bl ++ decI ln1) ++ [58]) ++ decI p5).length)]) rfl ?_
            obtain ⟨fl, efl⟩ : ∃ l : List Int32, l = (((bl ++ decI ln1) ++ [58]) ++ decI p5) := ⟨_, rfl⟩
            have yb5 : Arv Z T868.heap b811 ki811 .char 28 (fl.map Value.int) (.int 0) := by rw [efl]; exact q868_0
            rw [← efl]
            have hfm := fin_own ebl etx efl
            have h28 : fl.length ≤ 28 := by rw [efl]; simp only [List.length_append, List.length_cons, List.length_nil] at hb1 ⊢; omega
            refine g_aload C786 X868 at_384 386 rfl rfl ?_
            refine g_callV0 C786 X868 (b_23 hw) f871 at_386 [] [] 0 (rm15_s hw Z868 f871 f872 f873 f874 f869 hcs) N868 pd_9 rfl 389 (fun T875 _ X875 N875 e875 => ?_)
            refine g_iload C786 X875 at_389 391 rfl ?_
            refine g_icmp_ne C786 X875 at_391 784 394 (fun hc391 => absurd (by rw [hfm, List.length_map]) hc391) (fun hc391 => ?_)
            refine g_aload C786 X875 at_394 396 rfl rfl ?_
            refine g_aload C786 X875 at_396 398 rfl rfl ?_
            refine g_iload C786 X875 at_398 400 rfl ?_
            refine g_iconst C786 X875 at_400 401 (v := 0) rfl ?_
            refine g_callS0 C786 X875 (b_24 hw) at_401 [(.ref o4786), (.ref b811), (.int (Int32.ofNat fl.length)), (.int 0)] [] 0 (rm39 hw Z868 f871 f872 f873 f874 yb5 f869 f870 hcs hwf rfl (ixr 0) (by decide) hfm h28) N875 pd_41 e875 404 (fun T876 _ X876 N876 e876 => ?_)
            refine g_if_eq C786 X876 at_404 784 407 (fun hc404 => absurd hc404 (by decide)) (fun hc404 => ?_)
            refine g_aload C786 X876 at_407 409 rfl rfl ?_
            refine g_aload C786 X876 at_409 411 rfl rfl ?_
            refine g_iload C786 X876 at_411 413 rfl ?_
            refine g_iconst C786 X876 at_413 414 (v := 1) rfl ?_
            refine g_callS0 C786 X876 (b_24 hw) at_414 [(.ref o4786), (.ref b811), (.int (Int32.ofNat fl.length)), (.int 1)] [] 0 (rm39 hw Z868 f871 f872 f873 f874 yb5 f869 f870 hcs hwf rfl (ixr 1) (by decide) hfm h28) N876 pd_41 e876 417 (fun T877 _ X877 N877 e877 => ?_)
            refine g_if_eq C786 X877 at_417 784 420 (fun hc417 => absurd hc417 (by decide)) (fun hc417 => ?_)
            refine g_aload C786 X877 at_420 422 rfl rfl ?_
            refine g_aload C786 X877 at_422 424 rfl rfl ?_
            refine g_iload C786 X877 at_424 426 rfl ?_
            refine g_iconst C786 X877 at_426 427 (v := 2) rfl ?_
            refine g_callS0 C786 X877 (b_24 hw) at_427 [(.ref o4786), (.ref b811), (.int (Int32.ofNat fl.length)), (.int 2)] [] 0 (rm39 hw Z868 f871 f872 f873 f874 yb5 f869 f870 hcs hwf rfl (ixr 2) (by decide) hfm h28) N877 pd_41 e877 430 (fun T878 _ X878 N878 e878 => ?_)
            refine g_if_eq C786 X878 at_430 784 433 (fun hc430 => absurd hc430 (by decide)) (fun hc430 => ?_)
            refine g_aload C786 X878 at_433 435 rfl rfl ?_
            refine g_aload C786 X878 at_435 437 rfl rfl ?_
            refine g_iload C786 X878 at_437 439 rfl ?_
            refine g_iconst C786 X878 at_439 440 (v := 3) rfl ?_
            refine g_callS0 C786 X878 (b_24 hw) at_440 [(.ref o4786), (.ref b811), (.int (Int32.ofNat fl.length)), (.int 3)] [] 0 (rm39 hw Z868 f871 f872 f873 f874 yb5 f869 f870 hcs hwf rfl (ixr 3) (by decide) hfm h28) N878 pd_41 e878 443 (fun T879 _ X879 N879 e879 => ?_)
            refine g_if_eq C786 X879 at_443 784 446 (fun hc443 => absurd hc443 (by decide)) (fun hc443 => ?_)
            refine g_aload C786 X879 at_446 448 rfl rfl ?_
            refine g_aload C786 X879 at_448 450 rfl rfl ?_
            refine g_iload C786 X879 at_450 452 rfl ?_
            refine g_iconst C786 X879 at_452 453 (v := 4) rfl ?_
            refine g_callS0 C786 X879 (b_24 hw) at_453 [(.ref o4786), (.ref b811), (.int (Int32.ofNat fl.length)), (.int 4)] [] 0 (rm39 hw Z868 f871 f872 f873 f874 yb5 f869 f870 hcs hwf rfl (ixr 4) (by decide) hfm h28) N879 pd_41 e879 456 (fun T880 _ X880 N880 e880 => ?_)
            refine g_if_eq C786 X880 at_456 784 459 (fun hc456 => absurd hc456 (by decide)) (fun hc456 => ?_)
            refine g_aload C786 X880 at_459 461 rfl rfl ?_
            refine g_aload C786 X880 at_461 463 rfl rfl ?_
            refine g_iload C786 X880 at_463 465 rfl ?_
            refine g_iconst C786 X880 at_465 466 (v := 5) rfl ?_
            refine g_callS0 C786 X880 (b_24 hw) at_466 [(.ref o4786), (.ref b811), (.int (Int32.ofNat fl.length)), (.int 5)] [] 0 (rm39 hw Z868 f871 f872 f873 f874 yb5 f869 f870 hcs hwf rfl (ixr 5) (by decide) hfm h28) N880 pd_41 e880 469 (fun T881 _ X881 N881 e881 => ?_)
            refine g_if_eq C786 X881 at_469 784 472 (fun hc469 => absurd hc469 (by decide)) (fun hc469 => ?_)
            refine g_aload C786 X881 at_472 474 rfl rfl ?_
            refine g_aload C786 X881 at_474 476 rfl rfl ?_
            refine g_iload C786 X881 at_476 478 rfl ?_
            refine g_bipush C786 X881 at_478 480 (v := 6) rfl ?_
            refine g_callS0 C786 X881 (b_24 hw) at_480 [(.ref o4786), (.ref b811), (.int (Int32.ofNat fl.length)), (.int 6)] [] 0 (rm39 hw Z868 f871 f872 f873 f874 yb5 f869 f870 hcs hwf rfl (ixr 6) (by decide) hfm h28) N881 pd_41 e881 483 (fun T882 _ X882 N882 e882 => ?_)
            refine g_if_eq C786 X882 at_483 784 486 (fun hc483 => absurd hc483 (by decide)) (fun hc483 => ?_)
            refine g_aload C786 X882 at_486 488 rfl rfl ?_
            refine g_aload C786 X882 at_488 490 rfl rfl ?_
            refine g_iload C786 X882 at_490 492 rfl ?_
            refine g_bipush C786 X882 at_492 494 (v := 7) rfl ?_
            refine g_callS0 C786 X882 (b_24 hw) at_494 [(.ref o4786), (.ref b811), (.int (Int32.ofNat fl.length)), (.int 7)] [] 0 (rm39 hw Z868 f871 f872 f873 f874 yb5 f869 f870 hcs hwf rfl (ixr 7) (by decide) hfm h28) N882 pd_41 e882 497 (fun T883 _ X883 N883 e883 => ?_)
            refine g_if_eq C786 X883 at_497 784 500 (fun hc497 => absurd hc497 (by decide)) (fun hc497 => ?_)
            refine g_aload C786 X883 at_500 502 rfl rfl ?_
            refine g_aload C786 X883 at_502 504 rfl rfl ?_
            refine g_iload C786 X883 at_504 506 rfl ?_
            refine g_bipush C786 X883 at_506 508 (v := 8) rfl ?_
            refine g_callS0 C786 X883 (b_24 hw) at_508 [(.ref o4786), (.ref b811), (.int (Int32.ofNat fl.length)), (.int 8)] [] 0 (rm39 hw Z868 f871 f872 f873 f874 yb5 f869 f870 hcs hwf rfl (ixr 8) (by decide) hfm h28) N883 pd_41 e883 511 (fun T884 _ X884 N884 e884 => ?_)
            refine g_if_eq C786 X884 at_511 784 514 (fun hc511 => absurd hc511 (by decide)) (fun hc511 => ?_)
            refine g_aload C786 X884 at_514 516 rfl rfl ?_
            refine g_aload C786 X884 at_516 518 rfl rfl ?_
            refine g_iload C786 X884 at_518 520 rfl ?_
            refine g_bipush C786 X884 at_520 522 (v := 9) rfl ?_
            refine g_callS0 C786 X884 (b_24 hw) at_522 [(.ref o4786), (.ref b811), (.int (Int32.ofNat fl.length)), (.int 9)] [] 0 (rm39 hw Z868 f871 f872 f873 f874 yb5 f869 f870 hcs hwf rfl (ixr 9) (by decide) hfm h28) N884 pd_41 e884 525 (fun T885 _ X885 N885 e885 => ?_)
            refine g_if_eq C786 X885 at_525 784 528 (fun hc525 => absurd hc525 (by decide)) (fun hc525 => ?_)
            refine g_aload C786 X885 at_528 530 rfl rfl ?_
            refine g_aload C786 X885 at_530 532 rfl rfl ?_
            refine g_iload C786 X885 at_532 534 rfl ?_
            refine g_bipush C786 X885 at_534 536 (v := 10) rfl ?_
            refine g_callS0 C786 X885 (b_24 hw) at_536 [(.ref o4786), (.ref b811), (.int (Int32.ofNat fl.length)), (.int 10)] [] 0 (rm39 hw Z868 f871 f872 f873 f874 yb5 f869 f870 hcs hwf rfl (ixr 10) (by decide) hfm h28) N885 pd_41 e885 539 (fun T886 _ X886 N886 e886 => ?_)
            refine g_if_eq C786 X886 at_539 784 542 (fun hc539 => absurd hc539 (by decide)) (fun hc539 => ?_)
            refine g_aload C786 X886 at_542 544 rfl rfl ?_
            refine g_aload C786 X886 at_544 546 rfl rfl ?_
            refine g_iload C786 X886 at_546 548 rfl ?_
            refine g_bipush C786 X886 at_548 550 (v := 11) rfl ?_
            refine g_callS0 C786 X886 (b_24 hw) at_550 [(.ref o4786), (.ref b811), (.int (Int32.ofNat fl.length)), (.int 11)] [] 0 (rm39 hw Z868 f871 f872 f873 f874 yb5 f869 f870 hcs hwf rfl (ixr 11) (by decide) hfm h28) N886 pd_41 e886 553 (fun T887 _ X887 N887 e887 => ?_)
            refine g_if_eq C786 X887 at_553 784 556 (fun hc553 => absurd hc553 (by decide)) (fun hc553 => ?_)
            refine g_aload C786 X887 at_556 558 rfl rfl ?_
            refine g_aload C786 X887 at_558 560 rfl rfl ?_
            refine g_iload C786 X887 at_560 562 rfl ?_
            refine g_bipush C786 X887 at_562 564 (v := 12) rfl ?_
            refine g_callS0 C786 X887 (b_24 hw) at_564 [(.ref o4786), (.ref b811), (.int (Int32.ofNat fl.length)), (.int 12)] [] 0 (rm39 hw Z868 f871 f872 f873 f874 yb5 f869 f870 hcs hwf rfl (ixr 12) (by decide) hfm h28) N887 pd_41 e887 567 (fun T888 _ X888 N888 e888 => ?_)
            refine g_if_eq C786 X888 at_567 784 570 (fun hc567 => absurd hc567 (by decide)) (fun hc567 => ?_)
            refine g_aload C786 X888 at_570 572 rfl rfl ?_
            refine g_aload C786 X888 at_572 574 rfl rfl ?_
            refine g_iload C786 X888 at_574 576 rfl ?_
            refine g_bipush C786 X888 at_576 578 (v := 13) rfl ?_
            refine g_callS0 C786 X888 (b_24 hw) at_578 [(.ref o4786), (.ref b811), (.int (Int32.ofNat fl.length)), (.int 13)] [] 0 (rm39 hw Z868 f871 f872 f873 f874 yb5 f869 f870 hcs hwf rfl (ixr 13) (by decide) hfm h28) N888 pd_41 e888 581 (fun T889 _ X889 N889 e889 => ?_)
            refine g_if_eq C786 X889 at_581 784 584 (fun hc581 => absurd hc581 (by decide)) (fun hc581 => ?_)
            refine g_aload C786 X889 at_584 586 rfl rfl ?_
            refine g_aload C786 X889 at_586 588 rfl rfl ?_
            refine g_iload C786 X889 at_588 590 rfl ?_
            refine g_bipush C786 X889 at_590 592 (v := 14) rfl ?_
            refine g_callS0 C786 X889 (b_24 hw) at_592 [(.ref o4786), (.ref b811), (.int (Int32.ofNat fl.length)), (.int 14)] [] 0 (rm39 hw Z868 f871 f872 f873 f874 yb5 f869 f870 hcs hwf rfl (ixr 14) (by decide) hfm h28) N889 pd_41 e889 595 (fun T890 _ X890 N890 e890 => ?_)
            refine g_if_eq C786 X890 at_595 784 598 (fun hc595 => absurd hc595 (by decide)) (fun hc595 => ?_)
            refine g_aload C786 X890 at_598 600 rfl rfl ?_
            refine g_aload C786 X890 at_600 602 rfl rfl ?_
            refine g_iload C786 X890 at_602 604 rfl ?_
            refine g_bipush C786 X890 at_604 606 (v := 15) rfl ?_
            refine g_callS0 C786 X890 (b_24 hw) at_606 [(.ref o4786), (.ref b811), (.int (Int32.ofNat fl.length)), (.int 15)] [] 0 (rm39 hw Z868 f871 f872 f873 f874 yb5 f869 f870 hcs hwf rfl (ixr 15) (by decide) hfm h28) N890 pd_41 e890 609 (fun T891 _ X891 N891 e891 => ?_)
            refine g_if_eq C786 X891 at_609 784 612 (fun hc609 => absurd hc609 (by decide)) (fun hc609 => ?_)
            refine g_aload C786 X891 at_612 614 rfl rfl ?_
            refine g_aload C786 X891 at_614 616 rfl rfl ?_
            refine g_iload C786 X891 at_616 618 rfl ?_
            refine g_bipush C786 X891 at_618 620 (v := 16) rfl ?_
            refine g_callS0 C786 X891 (b_24 hw) at_620 [(.ref o4786), (.ref b811), (.int (Int32.ofNat fl.length)), (.int 16)] [] 0 (rm39 hw Z868 f871 f872 f873 f874 yb5 f869 f870 hcs hwf rfl (ixr 16) (by decide) hfm h28) N891 pd_41 e891 623 (fun T892 _ X892 N892 e892 => ?_)
            refine g_if_eq C786 X892 at_623 784 626 (fun hc623 => absurd hc623 (by decide)) (fun hc623 => ?_)
            refine g_aload C786 X892 at_626 628 rfl rfl ?_
            refine g_aload C786 X892 at_628 630 rfl rfl ?_
            refine g_iload C786 X892 at_630 632 rfl ?_
            refine g_bipush C786 X892 at_632 634 (v := 17) rfl ?_
            refine g_callS0 C786 X892 (b_24 hw) at_634 [(.ref o4786), (.ref b811), (.int (Int32.ofNat fl.length)), (.int 17)] [] 0 (rm39 hw Z868 f871 f872 f873 f874 yb5 f869 f870 hcs hwf rfl (ixr 17) (by decide) hfm h28) N892 pd_41 e892 637 (fun T893 _ X893 N893 e893 => ?_)
            refine g_if_eq C786 X893 at_637 784 640 (fun hc637 => absurd hc637 (by decide)) (fun hc637 => ?_)
            refine g_aload C786 X893 at_640 642 rfl rfl ?_
            refine g_aload C786 X893 at_642 644 rfl rfl ?_
            refine g_iload C786 X893 at_644 646 rfl ?_
            refine g_bipush C786 X893 at_646 648 (v := 18) rfl ?_
            refine g_callS0 C786 X893 (b_24 hw) at_648 [(.ref o4786), (.ref b811), (.int (Int32.ofNat fl.length)), (.int 18)] [] 0 (rm39 hw Z868 f871 f872 f873 f874 yb5 f869 f870 hcs hwf rfl (ixr 18) (by decide) hfm h28) N893 pd_41 e893 651 (fun T894 _ X894 N894 e894 => ?_)
            refine g_if_eq C786 X894 at_651 784 654 (fun hc651 => absurd hc651 (by decide)) (fun hc651 => ?_)
            refine g_aload C786 X894 at_654 656 rfl rfl ?_
            refine g_aload C786 X894 at_656 658 rfl rfl ?_
            refine g_iload C786 X894 at_658 660 rfl ?_
            refine g_bipush C786 X894 at_660 662 (v := 19) rfl ?_
            refine g_callS0 C786 X894 (b_24 hw) at_662 [(.ref o4786), (.ref b811), (.int (Int32.ofNat fl.length)), (.int 19)] [] 0 (rm39 hw Z868 f871 f872 f873 f874 yb5 f869 f870 hcs hwf rfl (ixr 19) (by decide) hfm h28) N894 pd_41 e894 665 (fun T895 _ X895 N895 e895 => ?_)
            refine g_if_eq C786 X895 at_665 784 668 (fun hc665 => absurd hc665 (by decide)) (fun hc665 => ?_)
            refine g_aload C786 X895 at_668 670 rfl rfl ?_
            refine g_aload C786 X895 at_670 672 rfl rfl ?_
            refine g_iload C786 X895 at_672 674 rfl ?_
            refine g_bipush C786 X895 at_674 676 (v := 20) rfl ?_
            refine g_callS0 C786 X895 (b_24 hw) at_676 [(.ref o4786), (.ref b811), (.int (Int32.ofNat fl.length)), (.int 20)] [] 0 (rm39 hw Z868 f871 f872 f873 f874 yb5 f869 f870 hcs hwf rfl (ixr 20) (by decide) hfm h28) N895 pd_41 e895 679 (fun T896 _ X896 N896 e896 => ?_)
            refine g_if_eq C786 X896 at_679 784 682 (fun hc679 => absurd hc679 (by decide)) (fun hc679 => ?_)
            refine g_aload C786 X896 at_682 684 rfl rfl ?_
            refine g_aload C786 X896 at_684 686 rfl rfl ?_
            refine g_iload C786 X896 at_686 688 rfl ?_
            refine g_bipush C786 X896 at_688 690 (v := 21) rfl ?_
            refine g_callS0 C786 X896 (b_24 hw) at_690 [(.ref o4786), (.ref b811), (.int (Int32.ofNat fl.length)), (.int 21)] [] 0 (rm39 hw Z868 f871 f872 f873 f874 yb5 f869 f870 hcs hwf rfl (ixr 21) (by decide) hfm h28) N896 pd_41 e896 693 (fun T897 _ X897 N897 e897 => ?_)
            refine g_if_eq C786 X897 at_693 784 696 (fun hc693 => absurd hc693 (by decide)) (fun hc693 => ?_)
            refine g_aload C786 X897 at_696 698 rfl rfl ?_
            refine g_aload C786 X897 at_698 700 rfl rfl ?_
            refine g_iload C786 X897 at_700 702 rfl ?_
            refine g_bipush C786 X897 at_702 704 (v := 22) rfl ?_
            refine g_callS0 C786 X897 (b_24 hw) at_704 [(.ref o4786), (.ref b811), (.int (Int32.ofNat fl.length)), (.int 22)] [] 0 (rm39 hw Z868 f871 f872 f873 f874 yb5 f869 f870 hcs hwf rfl (ixr 22) (by decide) hfm h28) N897 pd_41 e897 707 (fun T898 _ X898 N898 e898 => ?_)
            refine g_if_eq C786 X898 at_707 784 710 (fun hc707 => absurd hc707 (by decide)) (fun hc707 => ?_)
            refine g_aload C786 X898 at_710 712 rfl rfl ?_
            refine g_aload C786 X898 at_712 714 rfl rfl ?_
            refine g_iload C786 X898 at_714 716 rfl ?_
            refine g_bipush C786 X898 at_716 718 (v := 23) rfl ?_
            refine g_callS0 C786 X898 (b_24 hw) at_718 [(.ref o4786), (.ref b811), (.int (Int32.ofNat fl.length)), (.int 23)] [] 0 (rm39 hw Z868 f871 f872 f873 f874 yb5 f869 f870 hcs hwf rfl (ixr 23) (by decide) hfm h28) N898 pd_41 e898 721 (fun T899 _ X899 N899 e899 => ?_)
            refine g_if_eq C786 X899 at_721 784 724 (fun hc721 => absurd hc721 (by decide)) (fun hc721 => ?_)
            refine g_aload C786 X899 at_724 726 rfl rfl ?_
            refine g_aload C786 X899 at_726 728 rfl rfl ?_
            refine g_iload C786 X899 at_728 730 rfl ?_
            refine g_bipush C786 X899 at_730 732 (v := 24) rfl ?_
            refine g_callS0 C786 X899 (b_24 hw) at_732 [(.ref o4786), (.ref b811), (.int (Int32.ofNat fl.length)), (.int 24)] [] 0 (rm39 hw Z868 f871 f872 f873 f874 yb5 f869 f870 hcs hwf rfl (ixr 24) (by decide) hfm h28) N899 pd_41 e899 735 (fun T900 _ X900 N900 e900 => ?_)
            refine g_if_eq C786 X900 at_735 784 738 (fun hc735 => absurd hc735 (by decide)) (fun hc735 => ?_)
            refine g_aload C786 X900 at_738 740 rfl rfl ?_
            refine g_aload C786 X900 at_740 742 rfl rfl ?_
            refine g_iload C786 X900 at_742 744 rfl ?_
            refine g_bipush C786 X900 at_744 746 (v := 25) rfl ?_
            refine g_callS0 C786 X900 (b_24 hw) at_746 [(.ref o4786), (.ref b811), (.int (Int32.ofNat fl.length)), (.int 25)] [] 0 (rm39 hw Z868 f871 f872 f873 f874 yb5 f869 f870 hcs hwf rfl (ixr 25) (by decide) hfm h28) N900 pd_41 e900 749 (fun T901 _ X901 N901 e901 => ?_)
            refine g_if_eq C786 X901 at_749 784 752 (fun hc749 => absurd hc749 (by decide)) (fun hc749 => ?_)
            refine g_aload C786 X901 at_752 754 rfl rfl ?_
            refine g_aload C786 X901 at_754 756 rfl rfl ?_
            refine g_iload C786 X901 at_756 758 rfl ?_
            refine g_bipush C786 X901 at_758 760 (v := 26) rfl ?_
            refine g_callS0 C786 X901 (b_24 hw) at_760 [(.ref o4786), (.ref b811), (.int (Int32.ofNat fl.length)), (.int 26)] [] 0 (rm39 hw Z868 f871 f872 f873 f874 yb5 f869 f870 hcs hwf rfl (ixr 26) (by decide) hfm h28) N901 pd_41 e901 763 (fun T902 _ X902 N902 e902 => ?_)
            refine g_if_eq C786 X902 at_763 784 766 (fun hc763 => absurd hc763 (by decide)) (fun hc763 => ?_)
            refine g_aload C786 X902 at_766 768 rfl rfl ?_
            refine g_aload C786 X902 at_768 770 rfl rfl ?_
            refine g_iload C786 X902 at_770 772 rfl ?_
            refine g_bipush C786 X902 at_772 774 (v := 27) rfl ?_
            refine g_callS0 C786 X902 (b_24 hw) at_774 [(.ref o4786), (.ref b811), (.int (Int32.ofNat fl.length)), (.int 27)] [] 0 (rm39 hw Z868 f871 f872 f873 f874 yb5 f869 f870 hcs hwf rfl (ixr 27) (by decide) hfm h28) N902 pd_41 e902 777 (fun T903 _ X903 N903 e903 => ?_)
            refine g_if_eq C786 X903 at_777 784 780 (fun hc777 => absurd hc777 (by decide)) (fun hc777 => ?_)
            refine g_iconst C786 X903 at_780 781 (v := 1) rfl ?_
            refine g_goto C786 X903 at_781 785 ?_
            exact g_retNH C786 X903 K hS786 hk868 hEL H_868 R_868 (by simp) at_785 (by decide) (by decide) e903 ⟨rfl, N903⟩
        refine g_if_eq C X709 at_191 198 194 (fun hc191 => ?_) (fun hc191 => ?_)
        · refine g_iload C X709 at_198 200 rfl ?_
          exact j200 _
        · refine g_iconst C X709 at_194 195 (v := 0) rfl ?_
          refine g_goto C X709 at_195 200 ?_
          exact j200 _
    refine g_if_eq C X0 at_26 33 29 (fun hc26 => ?_) (fun hc26 => ?_)
    · refine g_iconst C X0 at_33 34 (v := 0) rfl ?_
      exact j34 _
    · refine g_iconst C X0 at_29 30 (v := 1) rfl ?_
      refine g_goto C X0 at_30 34 ?_
      exact j34 _
  · refine g_iconst C X0 at_14 15 (v := 1) rfl ?_
    refine g_goto C X0 at_15 19 ?_
    refine g_istore C X0 at_19 21 (w := 1) rfl (ls' := #[iv p0, iv p1, iv p2, iv p3, iv p4, iv p5, iv k6, iv 1, uu, uu, uu, uu, uu, uu, uu, uu, uu, uu, uu]) rfl ?_
    refine g_iloadN C X0 at_21 22 rfl ?_
    refine g_iconst C X0 at_22 23 (v := 5) rfl ?_
    refine g_iushr C X0 at_23 24 ?_
    refine g_iconst C X0 at_24 25 (v := 1) rfl ?_
    refine g_iand C X0 at_25 26 ?_
    have j34 : ∀ z8 : Int32, Goes p.tables e below G (T0.setTop (mkF m 34 #[iv p0, iv p1, iv p2, iv p3, iv p4, iv p5, iv k6, iv 1, uu, uu, uu, uu, uu, uu, uu, uu, uu, uu, uu] [(.int z8)])) := by
      intro z8
      refine g_istore C X0 at_34 36 (w := z8) rfl (ls' := #[iv p0, iv p1, iv p2, iv p3, iv p4, iv p5, iv k6, iv 1, iv z8, uu, uu, uu, uu, uu, uu, uu, uu, uu, uu]) rfl ?_
      refine g_iloadN C X0 at_36 37 rfl ?_
      refine g_sipush C X0 at_37 40 (v := 255) rfl ?_
      refine g_iand C X0 at_40 41 ?_
      refine g_i2c C X0 at_41 42 ?_
      refine g_istore C X0 at_42 44 (w := (p1 &&& (255 : Int32)).toUInt32.toUInt16.toUInt32.toInt32) rfl (ls' := #[iv p0, iv p1, iv p2, iv p3, iv p4, iv p5, iv k6, iv 1, iv z8, iv (p1 &&& (255 : Int32)).toUInt32.toUInt16.toUInt32.toInt32, uu, uu, uu, uu, uu, uu, uu, uu, uu]) rfl ?_
      refine g_iloadN C X0 at_44 45 rfl ?_
      refine g_sipush C X0 at_45 48 (v := 255) rfl ?_
      refine g_iand C X0 at_48 49 ?_
      refine g_i2c C X0 at_49 50 ?_
      refine g_istore C X0 at_50 52 (w := (p2 &&& (255 : Int32)).toUInt32.toUInt16.toUInt32.toInt32) rfl (ls' := #[iv p0, iv p1, iv p2, iv p3, iv p4, iv p5, iv k6, iv 1, iv z8, iv (p1 &&& (255 : Int32)).toUInt32.toUInt16.toUInt32.toInt32, iv (p2 &&& (255 : Int32)).toUInt32.toUInt16.toUInt32.toInt32, uu, uu, uu, uu, uu, uu, uu, uu]) rfl ?_
      refine g_iloadN C X0 at_52 53 rfl ?_
      refine g_sipush C X0 at_53 56 (v := 255) rfl ?_
      refine g_iand C X0 at_56 57 ?_
      refine g_i2c C X0 at_57 58 ?_
      refine g_istore C X0 at_58 60 (w := (p3 &&& (255 : Int32)).toUInt32.toUInt16.toUInt32.toInt32) rfl (ls' := #[iv p0, iv p1, iv p2, iv p3, iv p4, iv p5, iv k6, iv 1, iv z8, iv (p1 &&& (255 : Int32)).toUInt32.toUInt16.toUInt32.toInt32, iv (p2 &&& (255 : Int32)).toUInt32.toUInt16.toUInt32.toInt32, iv (p3 &&& (255 : Int32)).toUInt32.toUInt16.toUInt32.toInt32, uu, uu, uu, uu, uu, uu, uu]) rfl ?_
      refine g_iloadN C X0 at_60 61 rfl ?_
      refine g_bipush C X0 at_61 63 (v := 8) rfl ?_
      refine g_iushr C X0 at_63 64 ?_
      refine g_sipush C X0 at_64 67 (v := 255) rfl ?_
      refine g_iand C X0 at_67 68 ?_
      refine g_i2c C X0 at_68 69 ?_
      refine g_callS C X0 (w_0 hw) (w_1 hw) (w_2 hw) (w_3 hw) at_69 [(.int ((XT.ushr p1 (8 : Int32)) &&& (255 : Int32)).toUInt32.toUInt16.toUInt32.toInt32)] [] 0 (rm1 hw Z0 F0 (own_na _) hcs) pd_36 e0 72 (fun u904 T904 L904 X904 hQ904 => ?_)
      obtain ⟨o3904, rfl, Nq904, szo3904, Kq904⟩ := hQ904
      have N904 := Fr.app N0 Nq904
      have f907 := Sta.keepN F0 Kq904 all0
      have f908 := Sta.keepN F1 Kq904 all0
      have f909 := Sta.keepN F2 Kq904 all0
      have f910 := Sta.keepN F3 Kq904 all0
      have f911 := F4.keep Kq904 nin0
      have f912 := F5.keep Kq904 nin0
      have Z904 := Nat.le_trans Z0 Kq904.1
      have hk904 := Nat.le_trans (Nat.zero_le _) Kq904.1
      have H_904 := CHv.keep Kq904 all0 H0_
      have R_904 := R0_.trans (CHr.keep Kq904 all0 H0_)
      refine ret1 ?_
      refine g_astore C X904 at_72 74 rfl (ls' := #[iv p0, iv p1, iv p2, iv p3, iv p4, iv p5, iv k6, iv 1, iv z8, iv (p1 &&& (255 : Int32)).toUInt32.toUInt16.toUInt32.toInt32, iv (p2 &&& (255 : Int32)).toUInt32.toUInt16.toUInt32.toInt32, iv (p3 &&& (255 : Int32)).toUInt32.toUInt16.toUInt32.toInt32, rv o3904, uu, uu, uu, uu, uu, uu]) rfl ?_
      refine g_iload C X904 at_74 76 rfl ?_
      refine g_if_eq C X904 at_76 85 79 (fun hc76 => absurd hc76 (by decide)) (fun hc76 => ?_)
      refine g_aconstNull C X904 at_79 80 ?_
      refine g_astore C X904 at_80 82 rfl (ls' := #[iv p0, iv p1, iv p2, iv p3, iv p4, iv p5, iv k6, iv 1, iv z8, iv (p1 &&& (255 : Int32)).toUInt32.toUInt16.toUInt32.toInt32, iv (p2 &&& (255 : Int32)).toUInt32.toUInt16.toUInt32.toInt32, iv (p3 &&& (255 : Int32)).toUInt32.toUInt16.toUInt32.toInt32, rv o3904, nv, uu, uu, uu, uu, uu]) rfl ?_
      refine g_goto C X904 at_82 189 ?_
      obtain ⟨q5, e5, h5⟩ : ∃ l : List Int32, l = ([110, 117, 108, 108] : List Int32) ∧ l.length ≤ 4 := ⟨_, rfl, by decide⟩
      refine g_iload C X904 at_189 191 rfl ?_
      have j200 : ∀ ln1 : Int32, Goes p.tables e below G (T904.setTop (mkF m 200 #[iv p0, iv p1, iv p2, iv p3, iv p4, iv p5, iv k6, iv 1, iv z8, iv (p1 &&& (255 : Int32)).toUInt32.toUInt16.toUInt32.toInt32, iv (p2 &&& (255 : Int32)).toUInt32.toUInt16.toUInt32.toInt32, iv (p3 &&& (255 : Int32)).toUInt32.toUInt16.toUInt32.toInt32, rv o3904, nv, uu, uu, uu, uu, uu] [(.int ln1)])) := by
        intro ln1
        refine g_istore C X904 at_200 202 (w := ln1) rfl (ls' := #[iv p0, iv p1, iv p2, iv p3, iv p4, iv p5, iv k6, iv 1, iv z8, iv (p1 &&& (255 : Int32)).toUInt32.toUInt16.toUInt32.toInt32, iv (p2 &&& (255 : Int32)).toUInt32.toUInt16.toUInt32.toInt32, iv (p3 &&& (255 : Int32)).toUInt32.toUInt16.toUInt32.toInt32, rv o3904, nv, iv ln1, uu, uu, uu, uu]) rfl ?_
        by_cases hz : ln1 = (0 : Int32)
        · refine g_new C X904 (w_26 hw) (w_27 hw) (w_28 hw) rfl at_202 205 (by decide) (by decide) (fun T913 h913 b913 X913 e913 g913 E913 A913 D913 => ?_)
          have gn_b913 : n0 ≤ b913 := Nat.le_trans Z904 (Nat.le_of_eq g913.symm)
          have Z913 := Nat.le_trans Z904 E913.1
          have hk913 := Nat.le_trans hk904 E913.1
          have H_913 := H_904.ext E913
          have R_913 := R_904.trans (CHr.ext E913 H_904)
          have f922 : Fld Z h913 b913 "com/example/mortise/mortise/core/Problem" "path" "Ljava/lang/String;" .null := D913 (Or.inr (w_39 hw)) (ty := (.object "java/lang/String")) (by decide)
          have f923 : Fld Z h913 b913 "com/example/mortise/mortise/core/Problem" "line" "I" (.int 0) := D913 (Or.inr (w_41 hw)) (ty := .int) (by decide)
          have f924 : Fld Z h913 b913 "com/example/mortise/mortise/core/Problem" "column" "I" (.int 0) := D913 (Or.inr (w_43 hw)) (ty := .int) (by decide)
          have f925 : Fld Z h913 b913 "com/example/mortise/mortise/core/Problem" "message" "Ljava/lang/String;" .null := D913 (Or.inr (w_45 hw)) (ty := (.object "java/lang/String")) (by decide)
          refine g_dup C X913 at_205 206 rfl ?_
          refine g_aload C X913 at_206 208 rfl rfl ?_
          refine g_iload C X913 at_208 210 rfl ?_
          refine g_iload C X913 at_210 212 rfl ?_
          refine g_aload C X913 at_212 214 rfl rfl ?_
          refine g_callI C X913 rfl (w_29 hw) (w_30 hw) (w_28 hw) (w_31 hw) at_214 [.null, (.int ln1), (.int p5), (.ref o3904)] [(.ref b913)] 1 (rm6_n hw Z913 A913 f922 f923 f924 f925 gn_b913) pd_38 e913 217 (fun u926 T926 L926 X926 hQ926 => ?_)
          obtain ⟨rfl, Nq926, Kq926, q926_0, q926_1, q926_2, q926_3⟩ := hQ926
          have N926 := Fr.app N904 Nq926
          have Z926 := Nat.le_trans Z913 Kq926.1
          have hk926 := Nat.le_trans hk913 Kq926.1
          have H_926 := CHv.keep Kq926 (allS (Safe.exa C.2.1.alike A913 (by decide) (by decide)) all0) H_913
          have R_926 := R_913.trans (CHr.keep Kq926 (allS (Safe.exa C.2.1.alike A913 (by decide) (by decide)) all0) H_913)
          refine ret0 ?_
          refine g_astore C X926 at_217 219 rfl (ls' := #[iv p0, iv p1, iv p2, iv p3, iv p4, iv p5, iv k6, iv 1, iv z8, iv (p1 &&& (255 : Int32)).toUInt32.toUInt16.toUInt32.toInt32, iv (p2 &&& (255 : Int32)).toUInt32.toUInt16.toUInt32.toInt32, iv (p3 &&& (255 : Int32)).toUInt32.toUInt16.toUInt32.toInt32, rv o3904, nv, iv ln1, rv b913, uu, uu, uu]) rfl ?_
          refine g_aload C X926 at_219 221 rfl rfl ?_
          refine g_callV0 C X926 (b_21 hw) q926_0 at_221 [] [] 0 (rm8_z_n hw Z926 q926_1 q926_2 q926_3 hz) N926 pd_23 rfl 224 (fun T934 _ X934 N934 e934 => ?_)
          refine g_astore C X934 at_224 226 rfl (ls' := #[iv p0, iv p1, iv p2, iv p3, iv p4, iv p5, iv k6, iv 1, iv z8, iv (p1 &&& (255 : Int32)).toUInt32.toUInt16.toUInt32.toInt32, iv (p2 &&& (255 : Int32)).toUInt32.toUInt16.toUInt32.toInt32, iv (p3 &&& (255 : Int32)).toUInt32.toUInt16.toUInt32.toInt32, rv o3904, nv, iv ln1, rv b913, nv, uu, uu]) rfl ?_
          refine g_iload C X934 at_226 228 rfl ?_
          refine g_if_ne C X934 at_228 257 231 (fun hc228 => absurd hz hc228) (fun hc228 => ?_)
          refine g_aload C X934 at_231 233 rfl rfl ?_
          refine g_ifnonnullN C X934 at_233 236 ?_
          refine g_aload C X934 at_236 238 rfl rfl ?_
          refine g_ifnonnullN C X934 at_238 241 ?_
          refine g_iconst C X934 at_241 242 (v := 1) rfl ?_
          refine g_goto C X934 at_242 256 ?_
          exact g_retNH C X934 K hS0 hk926 hEL H_926 R_926 (by simp) at_256 (by decide) (by decide) e934 ⟨rfl, N934⟩
        · refine g_new C X904 (w_26 hw) (w_27 hw) (w_28 hw) rfl at_202 205 (by decide) (by decide) (fun T935 h935 b935 X935 e935 g935 E935 A935 D935 => ?_)
          have n936 : o7 ≠ b935 := Nat.ne_of_lt (Nat.lt_of_lt_of_eq f911.lt g935.symm)
          have n937 : o8 ≠ b935 := Nat.ne_of_lt (Nat.lt_of_lt_of_eq f912.lt g935.symm)
          have f938 := f907.ext E935
          have f939 := f908.ext E935
          have f940 := f909.ext E935
          have f941 := f910.ext E935
          have f942 := f911.ext E935
          have f943 := f912.ext E935
          have gn_b935 : n0 ≤ b935 := Nat.le_trans Z904 (Nat.le_of_eq g935.symm)
          have Z935 := Nat.le_trans Z904 E935.1
          have hk935 := Nat.le_trans hk904 E935.1
          have H_935 := H_904.ext E935
          have R_935 := R_904.trans (CHr.ext E935 H_904)
          have f944 : Fld Z h935 b935 "com/example/mortise/mortise/core/Problem" "path" "Ljava/lang/String;" .null := D935 (Or.inr (w_39 hw)) (ty := (.object "java/lang/String")) (by decide)
          have f945 : Fld Z h935 b935 "com/example/mortise/mortise/core/Problem" "line" "I" (.int 0) := D935 (Or.inr (w_41 hw)) (ty := .int) (by decide)
          have f946 : Fld Z h935 b935 "com/example/mortise/mortise/core/Problem" "column" "I" (.int 0) := D935 (Or.inr (w_43 hw)) (ty := .int) (by decide)
          have f947 : Fld Z h935 b935 "com/example/mortise/mortise/core/Problem" "message" "Ljava/lang/String;" .null := D935 (Or.inr (w_45 hw)) (ty := (.object "java/lang/String")) (by decide)
          refine g_dup C X935 at_205 206 rfl ?_
          refine g_aload C X935 at_206 208 rfl rfl ?_
          refine g_iload C X935 at_208 210 rfl ?_
          refine g_iload C X935 at_210 212 rfl ?_
          refine g_aload C X935 at_212 214 rfl rfl ?_
          refine g_callI C X935 rfl (w_29 hw) (w_30 hw) (w_28 hw) (w_31 hw) at_214 [.null, (.int ln1), (.int p5), (.ref o3904)] [(.ref b935)] 1 (rm6_n hw Z935 A935 f944 f945 f946 f947 gn_b935) pd_38 e935 217 (fun u948 T948 L948 X948 hQ948 => ?_)
          obtain ⟨rfl, Nq948, Kq948, q948_0, q948_1, q948_2, q948_3⟩ := hQ948
          have N948 := Fr.app N904 Nq948
          have f949 := Sta.keepN f938 Kq948 (allS (Exa.ns A935) all0)
          have f950 := Sta.keepN f939 Kq948 (allS (Exa.ns A935) all0)
          have f951 := Sta.keepN f940 Kq948 (allS (Exa.ns A935) all0)
          have f952 := Sta.keepN f941 Kq948 (allS (Exa.ns A935) all0)
          have f953 := f942.keep Kq948 (ninS n936 nin0)
          have f954 := f943.keep Kq948 (ninS n937 nin0)
          have Z948 := Nat.le_trans Z935 Kq948.1
          have hk948 := Nat.le_trans hk935 Kq948.1
          have H_948 := CHv.keep Kq948 (allS (Safe.exa C.2.1.alike A935 (by decide) (by decide)) all0) H_935
          have R_948 := R_935.trans (CHr.keep Kq948 (allS (Safe.exa C.2.1.alike A935 (by decide) (by decide)) all0) H_935)
          refine ret0 ?_
          refine g_astore C X948 at_217 219 rfl (ls' := #[iv p0, iv p1, iv p2, iv p3, iv p4, iv p5, iv k6, iv 1, iv z8, iv (p1 &&& (255 : Int32)).toUInt32.toUInt16.toUInt32.toInt32, iv (p2 &&& (255 : Int32)).toUInt32.toUInt16.toUInt32.toInt32, iv (p3 &&& (255 : Int32)).toUInt32.toUInt16.toUInt32.toInt32, rv o3904, nv, iv ln1, rv b935, uu, uu, uu]) rfl ?_
          refine g_aload C X948 at_219 221 rfl rfl ?_
          refine g_callVH C X948 hS0 hk948 hEL H_948 (w_46 hw) (w_47 hw) (notFace_of_selects (args := #[]) (mvT C.2.1 (w_49 hw))) (w_49 hw) (w_48 hw) (w_50 hw) (w_28 hw) q948_0 at_221 [] [] 0 (rm8_t_n hw Z948 hEL q948_0 q948_1 q948_2 q948_3 f951 f952 f953 f954 f949 hcs hz) pd_23 rfl 224 (fun u956 T956 L956 C956 X956 hQ956 hS956 A956 => ?_)
          obtain ⟨o4956, o3956, kd3956, rfl, Nq956, szo4956, szo3956, Kq956, q956_0, q956_1, q956_2, q956_3⟩ := hQ956
          have N956 := Fr.app N948 Nq956
          have f963 := Sta.keepN f949 Kq956 all0
          have f964 := Sta.keepN f950 Kq956 all0
          have Z956 := Nat.le_trans Z948 Kq956.1
          have H_956 := A956.1
          have R_956 := R_948.trans A956
          refine ret1 ?_
          refine g_astore C956 X956 at_224 226 rfl (ls' := #[iv p0, iv p1, iv p2, iv p3, iv p4, iv p5, iv k6, iv 1, iv z8, iv (p1 &&& (255 : Int32)).toUInt32.toUInt16.toUInt32.toInt32, iv (p2 &&& (255 : Int32)).toUInt32.toUInt16.toUInt32.toInt32, iv (p3 &&& (255 : Int32)).toUInt32.toUInt16.toUInt32.toInt32, rv o3904, nv, iv ln1, rv b935, rv o4956, uu, uu]) rfl ?_
          refine g_iload C956 X956 at_226 228 rfl ?_
          refine g_if_ne C956 X956 at_228 257 231 (fun hc228 => ?_) (fun hc228 => absurd hc228 hz)
          obtain ⟨tx, etx⟩ : ∃ l : List Int32, l = txT q5 ln1 p5 := ⟨_, rfl⟩
          have ytx : Arv Z T956.heap o3956 kd3956 .byte (Int32.ofNat tx.length) (tx.map Value.int) (.int 0) := by rw [etx, e5]; exact q956_3
          refine g_aload C956 X956 at_257 259 rfl rfl ?_
          refine g_ifnonnullY C956 X956 at_259 264 ?_
          refine g_bipush C956 X956 at_264 266 (v := 28) rfl ?_
          refine g_newA (aty := .char) (n := (28 : Int32)) C956 X956 (cap := 28) (w_52 hw) rfl at_266 268 (by decide) (by decide) (by decide) (by decide) (by decide) (fun T973 h973 b973 ki973 X973 e973 g973 E973 A973 => ?_)
          have n974 : o3956 ≠ b973 := Nat.ne_of_lt (Nat.lt_of_lt_of_eq ytx.lt g973.symm)
          have n975 : o4956 ≠ b973 := Nat.ne_of_lt (Nat.lt_of_lt_of_eq q956_0.lt g973.symm)
          have f976 := f963.ext E973
          have f977 := f964.ext E973
          have f978 := q956_0.ext E973
          have f979 := q956_1.ext E973
          have f980 := q956_2.ext E973
          have f981 := ytx.ext E973
          have gn_b973 : n0 ≤ b973 := Nat.le_trans Z956 (Nat.le_of_eq g973.symm)
          have Z973 := Nat.le_trans Z956 E973.1
          have hk973 := Nat.le_trans (Nat.le_refl _) E973.1
          have H_973 := H_956.ext E973
          have R_973 := R_956.trans (CHr.ext E973 H_956)
          have f982 : Arv Z h973 b973 ki973 .char 28 [(.int 0), (.int 0), (.int 0), (.int 0), (.int 0), (.int 0), (.int 0), (.int 0), (.int 0), (.int 0), (.int 0), (.int 0), (.int 0), (.int 0), (.int 0), (.int 0), (.int 0), (.int 0), (.int 0), (.int 0), (.int 0), (.int 0), (.int 0), (.int 0), (.int 0), (.int 0), (.int 0), (.int 0)] (.int 0) := A973.pad (pad_rep [] (.int 0) 28)
          refine g_astore C956 X973 at_268 270 rfl (ls' := #[iv p0, iv p1, iv p2, iv p3, iv p4, iv p5, iv k6, iv 1, iv z8, iv (p1 &&& (255 : Int32)).toUInt32.toUInt16.toUInt32.toInt32, iv (p2 &&& (255 : Int32)).toUInt32.toUInt16.toUInt32.toInt32, iv (p3 &&& (255 : Int32)).toUInt32.toUInt16.toUInt32.toInt32, rv o3904, nv, iv ln1, rv b935, rv o4956, rv b973, uu]) rfl ?_
          refine g_aload C956 X973 at_270 272 rfl rfl ?_
          refine g_ifnonnullN C956 X973 at_272 275 ?_
          refine g_aload C956 X973 at_275 277 rfl rfl ?_
          refine g_iconst C956 X973 at_277 278 (v := 0) rfl ?_
          refine g_bipush C956 X973 at_278 280 (v := 110) rfl ?_
          refine g_castore C956 X973 (i := 0) e973 f982 (by decide) rfl (Nat.le_of_ble_eq_true rfl) at_280 281 (fun T983 h983 X983 e983 W983 A983 => ?_)
          have f984 := f976.wr W983
          have f985 := f977.wr W983
          have f986 := f978.wr W983
          have f987 := f979.other W983 (Or.inl n975)
          have f988 := f980.other W983 (Or.inl n975)
          have f989 := f981.other W983 n974
          have f990 : Arv Z h983 b973 ki973 .char 28 [(.int (nar .char (110 : Int32))), (.int 0), (.int 0), (.int 0), (.int 0), (.int 0), (.int 0), (.int 0), (.int 0), (.int 0), (.int 0), (.int 0), (.int 0), (.int 0), (.int 0), (.int 0), (.int 0), (.int 0), (.int 0), (.int 0), (.int 0), (.int 0), (.int 0), (.int 0), (.int 0), (.int 0), (.int 0), (.int 0)] (.int 0) := A983
          have N983 := Fr.snoc X983 N956 gn_b973
          have Z983 := Nat.le_trans Z973 (Nat.le_of_eq W983.size.symm)
          have hk983 := Nat.le_trans hk973 (Nat.le_of_eq W983.size.symm)
          have H_983 := H_973.wr W983 (safe_arv C956.2.1.alike f982 (by decide))
          have R_983 := R_973.trans (CHr.wr W983 (safe_arv C956.2.1.alike f982 (by decide)) H_973)
          refine g_aload C956 X983 at_281 283 rfl rfl ?_
          refine g_iconst C956 X983 at_283 284 (v := 1) rfl ?_
          refine g_bipush C956 X983 at_284 286 (v := 117) rfl ?_
          refine g_castore C956 X983 (i := 1) e983 f990 (by decide) rfl (Nat.le_of_ble_eq_true rfl) at_286 287 (fun T991 h991 X991 e991 W991 A991 => ?_)
          have f992 := f984.wr W991
          have f993 := f985.wr W991
          have f994 := f986.wr W991
          have f995 := f987.other W991 (Or.inl n975)
          have f996 := f988.other W991 (Or.inl n975)
          have f997 := f989.other W991 n974
          have f998 : Arv Z h991 b973 ki973 .char 28 [(.int (nar .char (110 : Int32))), (.int (nar .char (117 : Int32))), (.int 0), (.int 0), (.int 0), (.int 0), (.int 0), (.int 0), (.int 0), (.int 0), (.int 0), (.int 0), (.int 0), (.int 0), (.int 0), (.int 0), (.int 0), (.int 0), (.int 0), (.int 0), (.int 0), (.int 0), (.int 0), (.int 0), (.int 0), (.int 0), (.int 0), (.int 0)] (.int 0) := A991
          have N991 := Fr.snoc X991 N983 gn_b973
          have Z991 := Nat.le_trans Z983 (Nat.le_of_eq W991.size.symm)
          have hk991 := Nat.le_trans hk983 (Nat.le_of_eq W991.size.symm)
          have H_991 := H_983.wr W991 (safe_arv C956.2.1.alike f990 (by decide))
          have R_991 := R_983.trans (CHr.wr W991 (safe_arv C956.2.1.alike f990 (by decide)) H_983)
          refine g_aload C956 X991 at_287 289 rfl rfl ?_
          refine g_iconst C956 X991 at_289 290 (v := 2) rfl ?_
          refine g_bipush C956 X991 at_290 292 (v := 108) rfl ?_
          refine g_castore C956 X991 (i := 2) e991 f998 (by decide) rfl (Nat.le_of_ble_eq_true rfl) at_292 293 (fun T999 h999 X999 e999 W999 A999 => ?_)
          have f1000 := f992.wr W999
          have f1001 := f993.wr W999
          have f1002 := f994.wr W999
          have f1003 := f995.other W999 (Or.inl n975)
          have f1004 := f996.other W999 (Or.inl n975)
          have f1005 := f997.other W999 n974
          have f1006 : Arv Z h999 b973 ki973 .char 28 [(.int (nar .char (110 : Int32))), (.int (nar .char (117 : Int32))), (.int (nar .char (108 : Int32))), (.int 0), (.int 0), (.int 0), (.int 0), (.int 0), (.int 0), (.int 0), (.int 0), (.int 0), (.int 0), (.int 0), (.int 0), (.int 0), (.int 0), (.int 0), (.int 0), (.int 0), (.int 0), (.int 0), (.int 0), (.int 0), (.int 0), (.int 0), (.int 0), (.int 0)] (.int 0) := A999
          have N999 := Fr.snoc X999 N991 gn_b973
          have Z999 := Nat.le_trans Z991 (Nat.le_of_eq W999.size.symm)
          have hk999 := Nat.le_trans hk991 (Nat.le_of_eq W999.size.symm)
          have H_999 := H_991.wr W999 (safe_arv C956.2.1.alike f998 (by decide))
          have R_999 := R_991.trans (CHr.wr W999 (safe_arv C956.2.1.alike f998 (by decide)) H_991)
          refine g_aload C956 X999 at_293 295 rfl rfl ?_
          refine g_iconst C956 X999 at_295 296 (v := 3) rfl ?_
          refine g_bipush C956 X999 at_296 298 (v := 108) rfl ?_
          refine g_castore C956 X999 (i := 3) e999 f1006 (by decide) rfl (Nat.le_of_ble_eq_true rfl) at_298 299 (fun T1007 h1007 X1007 e1007 W1007 A1007 => ?_)
          have f1008 := f1000.wr W1007
          have f1009 := f1001.wr W1007
          have f1010 := f1002.wr W1007
          have f1011 := f1003.other W1007 (Or.inl n975)
          have f1012 := f1004.other W1007 (Or.inl n975)
          have f1013 := f1005.other W1007 n974
          have f1014 : Arv Z h1007 b973 ki973 .char 28 [(.int (nar .char (110 : Int32))), (.int (nar .char (117 : Int32))), (.int (nar .char (108 : Int32))), (.int (nar .char (108 : Int32))), (.int 0), (.int 0), (.int 0), (.int 0), (.int 0), (.int 0), (.int 0), (.int 0), (.int 0), (.int 0), (.int 0), (.int 0), (.int 0), (.int 0), (.int 0), (.int 0), (.int 0), (.int 0), (.int 0), (.int 0), (.int 0), (.int 0), (.int 0), (.int 0)] (.int 0) := A1007
          have N1007 := Fr.snoc X1007 N999 gn_b973
          have Z1007 := Nat.le_trans Z999 (Nat.le_of_eq W1007.size.symm)
          have hk1007 := Nat.le_trans hk999 (Nat.le_of_eq W1007.size.symm)
          have H_1007 := H_999.wr W1007 (safe_arv C956.2.1.alike f1006 (by decide))
          have R_1007 := R_999.trans (CHr.wr W1007 (safe_arv C956.2.1.alike f1006 (by decide)) H_999)
          refine g_iconst C956 X1007 at_299 300 (v := 4) rfl ?_
          refine g_istore C956 X1007 at_300 302 (w := 4) rfl (ls' := #[iv p0, iv p1, iv p2, iv p3, iv p4, iv p5, iv k6, iv 1, iv z8, iv (p1 &&& (255 : Int32)).toUInt32.toUInt16.toUInt32.toInt32, iv (p2 &&& (255 : Int32)).toUInt32.toUInt16.toUInt32.toInt32, iv (p3 &&& (255 : Int32)).toUInt32.toUInt16.toUInt32.toInt32, rv o3904, nv, iv ln1, rv b935, rv o4956, rv b973, iv 4]) rfl ?_
          refine g_goto C956 X1007 at_302 344 ?_
          refine g_aload C956 X1007 at_344 346 rfl rfl ?_
          refine g_iload C956 X1007 at_346 348 rfl ?_
          refine g_bipush C956 X1007 at_348 350 (v := 58) rfl ?_
          refine g_castore C956 X1007 (i := 4) e1007 f1014 (by decide) rfl (Nat.le_of_ble_eq_true rfl) at_350 351 (fun T1015 h1015 X1015 e1015 W1015 A1015 => ?_)
          have f1016 := f1008.wr W1015
          have f1017 := f1009.wr W1015
          have f1018 := f1010.wr W1015
          have f1019 := f1011.other W1015 (Or.inl n975)
          have f1020 := f1012.other W1015 (Or.inl n975)
          have f1021 := f1013.other W1015 n974
          have f1022 : Arv Z h1015 b973 ki973 .char 28 [(.int (nar .char (110 : Int32))), (.int (nar .char (117 : Int32))), (.int (nar .char (108 : Int32))), (.int (nar .char (108 : Int32))), (.int (nar .char (58 : Int32))), (.int 0), (.int 0), (.int 0), (.int 0), (.int 0), (.int 0), (.int 0), (.int 0), (.int 0), (.int 0), (.int 0), (.int 0), (.int 0), (.int 0), (.int 0), (.int 0), (.int 0), (.int 0), (.int 0), (.int 0), (.int 0), (.int 0), (.int 0)] (.int 0) := A1015
          have N1015 := Fr.snoc X1015 N1007 gn_b973
          have Z1015 := Nat.le_trans Z1007 (Nat.le_of_eq W1015.size.symm)
          have hk1015 := Nat.le_trans hk1007 (Nat.le_of_eq W1015.size.symm)
          have H_1015 := H_1007.wr W1015 (safe_arv C956.2.1.alike f1014 (by decide))
          have R_1015 := R_1007.trans (CHr.wr W1015 (safe_arv C956.2.1.alike f1014 (by decide)) H_1007)
          have yb7 : Arv Z h1015 b973 ki973 .char 28 [(.int (nar .char (110 : Int32))), (.int (nar .char (117 : Int32))), (.int (nar .char (108 : Int32))), (.int (nar .char (108 : Int32))), (.int (nar .char (58 : Int32)))] (.int 0) := f1022.pad (fun i => (pad_rep [(.int (nar .char (110 : Int32))), (.int (nar .char (117 : Int32))), (.int (nar .char (108 : Int32))), (.int (nar .char (108 : Int32))), (.int (nar .char (58 : Int32)))] (.int 0) 23 i).symm)
          obtain ⟨bl, ebl⟩ : ∃ l : List Int32, l = (q5 ++ [58]).map own_ch := ⟨_, rfl⟩
          have yb6 : Arv Z h1015 b973 ki973 .char 28 (bl.map Value.int) (.int 0) := by rw [ebl, e5]; simp only [List.cons_append, List.nil_append, List.map_cons, List.map_nil, own_bk, own58, own110, own117, own108]; exact yb7
          have hbl : bl.length = 5 := by rw [ebl, e5]; rfl
          have q1 := decI_length ln1
          have q2 := decI_length p5
          have hb1 : (bl ++ decI ln1).length ≤ 16 := by rw [List.length_append]; omega
          refine g_aload C956 X1015 at_351 353 rfl rfl ?_
          refine g_iload C956 X1015 at_353 355 rfl ?_
          refine g_iconst C956 X1015 at_355 356 (v := 1) rfl ?_
          refine g_iadd C956 X1015 at_356 357 ?_
          rw [show (4 : Int32) + 1 = 5 from by decide]
          refine g_iload C956 X1015 at_357 359 rfl ?_
          refine g_callS C956 X1015 (w_191 hw) (w_192 hw) (w_193 hw) (w_194 hw) at_359 [(.ref b973), (.int 5), (.int ln1)] [] 0 (rm36 hw Z1015 yb6 gn_b973 (by rw [hbl]; rfl) (by rw [hbl]; decide)) pd_40 e1015 362 (fun u1023 T1023 L1023 X1023 hQ1023 => ?_)
          obtain ⟨rfl, Nq1023, Kq1023, q1023_0⟩ := hQ1023
          have N1023 := Fr.app N1015 Nq1023
          have f1024 := Sta.keepN f1016 Kq1023 (allS (Arv.nostat yb6) all0)
          have f1025 := Sta.keepN f1017 Kq1023 (allS (Arv.nostat yb6) all0)
          have f1026 := f1018.keep Kq1023
          have f1027 := f1019.keep Kq1023 (ninS n975 nin0)
          have f1028 := f1020.keep Kq1023 (ninS n975 nin0)
          have f1029 := f1021.keep Kq1023 (ninS n974 nin0)
          have Z1023 := Nat.le_trans Z1015 Kq1023.1
          have hk1023 := Nat.le_trans hk1015 Kq1023.1
          have H_1023 := CHv.keep Kq1023 (allS (safe_arv C956.2.1.alike yb6 (by decide)) all0) H_1015
          have R_1023 := R_1015.trans (CHr.keep Kq1023 (allS (safe_arv C956.2.1.alike yb6 (by decide)) all0) H_1015)
          refine ret1 ?_
          refine g_istore C956 X1023 at_362 364 (w := (Int32.ofNat (bl ++ decI ln1).length)) rfl (ls' := #[iv p0, iv p1, iv p2, iv p3, iv p4, iv p5, iv k6, iv 1, iv z8, iv (p1 &&& (255 : Int32)).toUInt32.toUInt16.toUInt32.toInt32, iv (p2 &&& (255 : Int32)).toUInt32.toUInt16.toUInt32.toInt32, iv (p3 &&& (255 : Int32)).toUInt32.toUInt16.toUInt32.toInt32, rv o3904, nv, iv ln1, rv b935, rv o4956, rv b973, iv (Int32.ofNat (bl ++ decI ln1).length)]) rfl ?_
          refine g_aload C956 X1023 at_364 366 rfl rfl ?_
          refine g_iload C956 X1023 at_366 368 rfl ?_
          refine g_bipush C956 X1023 at_368 370 (v := 58) rfl ?_
          have fb := q1023_0.pad (pad_rep ((bl ++ decI ln1).map Value.int) (.int 0) 1)
          refine g_castore C956 X1023 (i := (bl ++ decI ln1).length) rfl fb (set_in (n := (bl ++ decI ln1).length) (m := 28) rfl rfl (by omega) (by decide)) (set_nat (n := (bl ++ decI ln1).length) rfl (by omega)) (set_lt rfl) at_370 371 (fun T1030 h1030 X1030 e1030 W1030 A1030 => ?_)
          have f1031 := f1024.wr W1030
          have f1032 := f1025.wr W1030
          have f1033 := f1026.wr W1030
          have f1034 := f1027.other W1030 (Or.inl n975)
          have f1035 := f1028.other W1030 (Or.inl n975)
          have f1036 := f1029.other W1030 n974
          have f1037 : Arv Z h1030 b973 ki973 .char 28 (((bl ++ decI ln1) ++ [58]).map Value.int) (.int 0) := (set_app rfl nar58) ▸ A1030
          have N1030 := Fr.snoc X1030 N1023 gn_b973
          have Z1030 := Nat.le_trans Z1023 (Nat.le_of_eq W1030.size.symm)
          have hk1030 := Nat.le_trans hk1023 (Nat.le_of_eq W1030.size.symm)
          have H_1030 := H_1023.wr W1030 (safe_arv C956.2.1.alike q1023_0 (by decide))
          have R_1030 := R_1023.trans (CHr.wr W1030 (safe_arv C956.2.1.alike q1023_0 (by decide)) H_1023)
          refine g_aload C956 X1030 at_371 373 rfl rfl ?_
          refine g_iload C956 X1030 at_373 375 rfl ?_
          refine g_iconst C956 X1030 at_375 376 (v := 1) rfl ?_
          refine g_iadd C956 X1030 at_376 377 ?_
          rw [len1 (bl ++ decI ln1) 58]
          refine g_iload C956 X1030 at_377 379 rfl ?_
          refine g_callS C956 X1030 (w_191 hw) (w_192 hw) (w_193 hw) (w_194 hw) at_379 [(.ref b973), (.int (Int32.ofNat ((bl ++ decI ln1) ++ [58]).length)), (.int p5)] [] 0 (rm36 hw Z1030 f1037 gn_b973 rfl (by rw [List.length_append]; exact Nat.succ_le_succ hb1)) pd_40 e1030 382 (fun u1038 T1038 L1038 X1038 hQ1038 => ?_)
          obtain ⟨rfl, Nq1038, Kq1038, q1038_0⟩ := hQ1038
          have N1038 := Fr.app N1030 Nq1038
          have f1039 := Sta.keepN f1031 Kq1038 (allS (Arv.nostat f1037) all0)
          have f1040 := Sta.keepN f1032 Kq1038 (allS (Arv.nostat f1037) all0)
          have f1041 := f1033.keep Kq1038
          have f1042 := f1034.keep Kq1038 (ninS n975 nin0)
          have f1043 := f1035.keep Kq1038 (ninS n975 nin0)
          have f1044 := f1036.keep Kq1038 (ninS n974 nin0)
          have Z1038 := Nat.le_trans Z1030 Kq1038.1
          have hk1038 := Nat.le_trans hk1030 Kq1038.1
          have H_1038 := CHv.keep Kq1038 (allS (safe_arv C956.2.1.alike f1037 (by decide)) all0) H_1030
          have R_1038 := R_1030.trans (CHr.keep Kq1038 (allS (safe_arv C956.2.1.alike f1037 (by decide)) all0) H_1030)
          refine ret1 ?_
          refine g_istore C956 X1038 at_382 384 (w := (Int32.ofNat (((bl ++ decI ln1) ++ [58]) ++ decI p5).length)) rfl (ls' := #[iv p0, iv p1, iv p2, iv p3, iv p4, iv p5, iv k6, iv 1, iv z8, iv (p1 &&& (255 : Int32)).toUInt32.toUInt16.toUInt32.toInt32, iv (p2 &&& (255 : Int32)).toUInt32.toUInt16.toUInt32.toInt32, iv (p3 &&& (255 : Int32)).toUInt32.toUInt16.toUInt32.toInt32, rv o3904, nv, iv ln1, rv b935, rv o4956, rv b973, iv (Int32.ofNat (((bl ++ decI ln1) ++ [58]) ++ decI p5).length)]) rfl ?_
          obtain ⟨fl, efl⟩ : ∃ l : List Int32, l = (((bl ++ decI ln1) ++ [58]) ++ decI p5) := ⟨_, rfl⟩
          have yb5 : Arv Z T1038.heap b973 ki973 .char 28 (fl.map Value.int) (.int 0) := by rw [efl]; exact q1038_0
          rw [← efl]
          have hfm := fin_own ebl etx efl
          have h28 : fl.length ≤ 28 := by rw [efl]; simp only [List.length_append, List.length_cons, List.length_nil] at hb1 ⊢; omega
          refine g_aload C956 X1038 at_384 386 rfl rfl ?_
          refine g_callV0 C956 X1038 (b_23 hw) f1041 at_386 [] [] 0 (rm15_s hw Z1038 f1041 f1042 f1043 f1044 f1039 hcs) N1038 pd_9 rfl 389 (fun T1045 _ X1045 N1045 e1045 => ?_)
          refine g_iload C956 X1045 at_389 391 rfl ?_
          refine g_icmp_ne C956 X1045 at_391 784 394 (fun hc391 => absurd (by rw [hfm, List.length_map]) hc391) (fun hc391 => ?_)
          refine g_aload C956 X1045 at_394 396 rfl rfl ?_
          refine g_aload C956 X1045 at_396 398 rfl rfl ?_
          refine g_iload C956 X1045 at_398 400 rfl ?_
          refine g_iconst C956 X1045 at_400 401 (v := 0) rfl ?_
          refine g_callS0 C956 X1045 (b_24 hw) at_401 [(.ref o4956), (.ref b973), (.int (Int32.ofNat fl.length)), (.int 0)] [] 0 (rm39 hw Z1038 f1041 f1042 f1043 f1044 yb5 f1039 f1040 hcs hwf rfl (ixr 0) (by decide) hfm h28) N1045 pd_41 e1045 404 (fun T1046 _ X1046 N1046 e1046 => ?_)
          refine g_if_eq C956 X1046 at_404 784 407 (fun hc404 => absurd hc404 (by decide)) (fun hc404 => ?_)
          refine g_aload C956 X1046 at_407 409 rfl rfl ?_
          refine g_aload C956 X1046 at_409 411 rfl rfl ?_
          refine g_iload C956 X1046 at_411 413 rfl ?_
          refine g_iconst C956 X1046 at_413 414 (v := 1) rfl ?_
          refine g_callS0 C956 X1046 (b_24 hw) at_414 [(.ref o4956), (.ref b973), (.int (Int32.ofNat fl.length)), (.int 1)] [] 0 (rm39 hw Z1038 f1041 f1042 f1043 f1044 yb5 f1039 f1040 hcs hwf rfl (ixr 1) (by decide) hfm h28) N1046 pd_41 e1046 417 (fun T1047 _ X1047 N1047 e1047 => ?_)
          refine g_if_eq C956 X1047 at_417 784 420 (fun hc417 => absurd hc417 (by decide)) (fun hc417 => ?_)
          refine g_aload C956 X1047 at_420 422 rfl rfl ?_
          refine g_aload C956 X1047 at_422 424 rfl rfl ?_
          refine g_iload C956 X1047 at_424 426 rfl ?_
          refine g_iconst C956 X1047 at_426 427 (v := 2) rfl ?_
          refine g_callS0 C956 X1047 (b_24 hw) at_427 [(.ref o4956), (.ref b973), (.int (Int32.ofNat fl.length)), (.int 2)] [] 0 (rm39 hw Z1038 f1041 f1042 f1043 f1044 yb5 f1039 f1040 hcs hwf rfl (ixr 2) (by decide) hfm h28) N1047 pd_41 e1047 430 (fun T1048 _ X1048 N1048 e1048 => ?_)
          refine g_if_eq C956 X1048 at_430 784 433 (fun hc430 => absurd hc430 (by decide)) (fun hc430 => ?_)
          refine g_aload C956 X1048 at_433 435 rfl rfl ?_
          refine g_aload C956 X1048 at_435 437 rfl rfl ?_
          refine g_iload C956 X1048 at_437 439 rfl ?_
          refine g_iconst C956 X1048 at_439 440 (v := 3) rfl ?_
          refine g_callS0 C956 X1048 (b_24 hw) at_440 [(.ref o4956), (.ref b973), (.int (Int32.ofNat fl.length)), (.int 3)] [] 0 (rm39 hw Z1038 f1041 f1042 f1043 f1044 yb5 f1039 f1040 hcs hwf rfl (ixr 3) (by decide) hfm h28) N1048 pd_41 e1048 443 (fun T1049 _ X1049 N1049 e1049 => ?_)
          refine g_if_eq C956 X1049 at_443 784 446 (fun hc443 => absurd hc443 (by decide)) (fun hc443 => ?_)
          refine g_aload C956 X1049 at_446 448 rfl rfl ?_
          refine g_aload C956 X1049 at_448 450 rfl rfl ?_
          refine g_iload C956 X1049 at_450 452 rfl ?_
          refine g_iconst C956 X1049 at_452 453 (v := 4) rfl ?_
          refine g_callS0 C956 X1049 (b_24 hw) at_453 [(.ref o4956), (.ref b973), (.int (Int32.ofNat fl.length)), (.int 4)] [] 0 (rm39 hw Z1038 f1041 f1042 f1043 f1044 yb5 f1039 f1040 hcs hwf rfl (ixr 4) (by decide) hfm h28) N1049 pd_41 e1049 456 (fun T1050 _ X1050 N1050 e1050 => ?_)
          refine g_if_eq C956 X1050 at_456 784 459 (fun hc456 => absurd hc456 (by decide)) (fun hc456 => ?_)
          refine g_aload C956 X1050 at_459 461 rfl rfl ?_
          refine g_aload C956 X1050 at_461 463 rfl rfl ?_
          refine g_iload C956 X1050 at_463 465 rfl ?_
          refine g_iconst C956 X1050 at_465 466 (v := 5) rfl ?_
          refine g_callS0 C956 X1050 (b_24 hw) at_466 [(.ref o4956), (.ref b973), (.int (Int32.ofNat fl.length)), (.int 5)] [] 0 (rm39 hw Z1038 f1041 f1042 f1043 f1044 yb5 f1039 f1040 hcs hwf rfl (ixr 5) (by decide) hfm h28) N1050 pd_41 e1050 469 (fun T1051 _ X1051 N1051 e1051 => ?_)
          refine g_if_eq C956 X1051 at_469 784 472 (fun hc469 => absurd hc469 (by decide)) (fun hc469 => ?_)
          refine g_aload C956 X1051 at_472 474 rfl rfl ?_
          refine g_aload C956 X1051 at_474 476 rfl rfl ?_
          refine g_iload C956 X1051 at_476 478 rfl ?_
          refine g_bipush C956 X1051 at_478 480 (v := 6) rfl ?_
          refine g_callS0 C956 X1051 (b_24 hw) at_480 [(.ref o4956), (.ref b973), (.int (Int32.ofNat fl.length)), (.int 6)] [] 0 (rm39 hw Z1038 f1041 f1042 f1043 f1044 yb5 f1039 f1040 hcs hwf rfl (ixr 6) (by decide) hfm h28) N1051 pd_41 e1051 483 (fun T1052 _ X1052 N1052 e1052 => ?_)
          refine g_if_eq C956 X1052 at_483 784 486 (fun hc483 => absurd hc483 (by decide)) (fun hc483 => ?_)
          refine g_aload C956 X1052 at_486 488 rfl rfl ?_
          refine g_aload C956 X1052 at_488 490 rfl rfl ?_
          refine g_iload C956 X1052 at_490 492 rfl ?_
          refine g_bipush C956 X1052 at_492 494 (v := 7) rfl ?_
          refine g_callS0 C956 X1052 (b_24 hw) at_494 [(.ref o4956), (.ref b973), (.int (Int32.ofNat fl.length)), (.int 7)] [] 0 (rm39 hw Z1038 f1041 f1042 f1043 f1044 yb5 f1039 f1040 hcs hwf rfl (ixr 7) (by decide) hfm h28) N1052 pd_41 e1052 497 (fun T1053 _ X1053 N1053 e1053 => ?_)
          refine g_if_eq C956 X1053 at_497 784 500 (fun hc497 => absurd hc497 (by decide)) (fun hc497 => ?_)
          refine g_aload C956 X1053 at_500 502 rfl rfl ?_
          refine g_aload C956 X1053 at_502 504 rfl rfl ?_
          refine g_iload C956 X1053 at_504 506 rfl ?_
          refine g_bipush C956 X1053 at_506 508 (v := 8) rfl ?_
          refine g_callS0 C956 X1053 (b_24 hw) at_508 [(.ref o4956), (.ref b973), (.int (Int32.ofNat fl.length)), (.int 8)] [] 0 (rm39 hw Z1038 f1041 f1042 f1043 f1044 yb5 f1039 f1040 hcs hwf rfl (ixr 8) (by decide) hfm h28) N1053 pd_41 e1053 511 (fun T1054 _ X1054 N1054 e1054 => ?_)
          refine g_if_eq C956 X1054 at_511 784 514 (fun hc511 => absurd hc511 (by decide)) (fun hc511 => ?_)
          refine g_aload C956 X1054 at_514 516 rfl rfl ?_
          refine g_aload C956 X1054 at_516 518 rfl rfl ?_
          refine g_iload C956 X1054 at_518 520 rfl ?_
          refine g_bipush C956 X1054 at_520 522 (v := 9) rfl ?_
          refine g_callS0 C956 X1054 (b_24 hw) at_522 [(.ref o4956), (.ref b973), (.int (Int32.ofNat fl.length)), (.int 9)] [] 0 (rm39 hw Z1038 f1041 f1042 f1043 f1044 yb5 f1039 f1040 hcs hwf rfl (ixr 9) (by decide) hfm h28) N1054 pd_41 e1054 525 (fun T1055 _ X1055 N1055 e1055 => ?_)
          refine g_if_eq C956 X1055 at_525 784 528 (fun hc525 => absurd hc525 (by decide)) (fun hc525 => ?_)
          refine g_aload C956 X1055 at_528 530 rfl rfl ?_
          refine g_aload C956 X1055 at_530 532 rfl rfl ?_
          refine g_iload C956 X1055 at_532 534 rfl ?_
          refine g_bipush C956 X1055 at_534 536 (v := 10) rfl ?_
          refine g_callS0 C956 X1055 (b_24 hw) at_536 [(.ref o4956), (.ref b973), (.int (Int32.ofNat fl.length)), (.int 10)] [] 0 (rm39 hw Z1038 f1041 f1042 f1043 f1044 yb5 f1039 f1040 hcs hwf rfl (ixr 10) (by decide) hfm h28) N1055 pd_41 e1055 539 (fun T1056 _ X1056 N1056 e1056 => ?_)
          refine g_if_eq C956 X1056 at_539 784 542 (fun hc539 => absurd hc539 (by decide)) (fun hc539 => ?_)
          refine g_aload C956 X1056 at_542 544 rfl rfl ?_
          refine g_aload C956 X1056 at_544 546 rfl rfl ?_
          refine g_iload C956 X1056 at_546 548 rfl ?_
          refine g_bipush C956 X1056 at_548 550 (v := 11) rfl ?_
          refine g_callS0 C956 X1056 (b_24 hw) at_550 [(.ref o4956), (.ref b973), (.int (Int32.ofNat fl.length)), (.int 11)] [] 0 (rm39 hw Z1038 f1041 f1042 f1043 f1044 yb5 f1039 f1040 hcs hwf rfl (ixr 11) (by decide) hfm h28) N1056 pd_41 e1056 553 (fun T1057 _ X1057 N1057 e1057 => ?_)
          refine g_if_eq C956 X1057 at_553 784 556 (fun hc553 => absurd hc553 (by decide)) (fun hc553 => ?_)
          refine g_aload C956 X1057 at_556 558 rfl rfl ?_
          refine g_aload C956 X1057 at_558 560 rfl rfl ?_
          refine g_iload C956 X1057 at_560 562 rfl ?_
          refine g_bipush C956 X1057 at_562 564 (v := 12) rfl ?_
          refine g_callS0 C956 X1057 (b_24 hw) at_564 [(.ref o4956), (.ref b973), (.int (Int32.ofNat fl.length)), (.int 12)] [] 0 (rm39 hw Z1038 f1041 f1042 f1043 f1044 yb5 f1039 f1040 hcs hwf rfl (ixr 12) (by decide) hfm h28) N1057 pd_41 e1057 567 (fun T1058 _ X1058 N1058 e1058 => ?_)
          refine g_if_eq C956 X1058 at_567 784 570 (fun hc567 => absurd hc567 (by decide)) (fun hc567 => ?_)
          refine g_aload C956 X1058 at_570 572 rfl rfl ?_
          refine g_aload C956 X1058 at_572 574 rfl rfl ?_
          refine g_iload C956 X1058 at_574 576 rfl ?_
          refine g_bipush C956 X1058 at_576 578 (v := 13) rfl ?_
          refine g_callS0 C956 X1058 (b_24 hw) at_578 [(.ref o4956), (.ref b973), (.int (Int32.ofNat fl.length)), (.int 13)] [] 0 (rm39 hw Z1038 f1041 f1042 f1043 f1044 yb5 f1039 f1040 hcs hwf rfl (ixr 13) (by decide) hfm h28) N1058 pd_41 e1058 581 (fun T1059 _ X1059 N1059 e1059 => ?_)
          refine g_if_eq C956 X1059 at_581 784 584 (fun hc581 => absurd hc581 (by decide)) (fun hc581 => ?_)
          refine g_aload C956 X1059 at_584 586 rfl rfl ?_
          refine g_aload C956 X1059 at_586 588 rfl rfl ?_
          refine g_iload C956 X1059 at_588 590 rfl ?_
          refine g_bipush C956 X1059 at_590 592 (v := 14) rfl ?_
          refine g_callS0 C956 X1059 (b_24 hw) at_592 [(.ref o4956), (.ref b973), (.int (Int32.ofNat fl.length)), (.int 14)] [] 0 (rm39 hw Z1038 f1041 f1042 f1043 f1044 yb5 f1039 f1040 hcs hwf rfl (ixr 14) (by decide) hfm h28) N1059 pd_41 e1059 595 (fun T1060 _ X1060 N1060 e1060 => ?_)
          refine g_if_eq C956 X1060 at_595 784 598 (fun hc595 => absurd hc595 (by decide)) (fun hc595 => ?_)
          refine g_aload C956 X1060 at_598 600 rfl rfl ?_
          refine g_aload C956 X1060 at_600 602 rfl rfl ?_
          refine g_iload C956 X1060 at_602 604 rfl ?_
          refine g_bipush C956 X1060 at_604 606 (v := 15) rfl ?_
          refine g_callS0 C956 X1060 (b_24 hw) at_606 [(.ref o4956), (.ref b973), (.int (Int32.ofNat fl.length)), (.int 15)] [] 0 (rm39 hw Z1038 f1041 f1042 f1043 f1044 yb5 f1039 f1040 hcs hwf rfl (ixr 15) (by decide) hfm h28) N1060 pd_41 e1060 609 (fun T1061 _ X1061 N1061 e1061 => ?_)
          refine g_if_eq C956 X1061 at_609 784 612 (fun hc609 => absurd hc609 (by decide)) (fun hc609 => ?_)
          refine g_aload C956 X1061 at_612 614 rfl rfl ?_
          refine g_aload C956 X1061 at_614 616 rfl rfl ?_
          refine g_iload C956 X1061 at_616 618 rfl ?_
          refine g_bipush C956 X1061 at_618 620 (v := 16) rfl ?_
          refine g_callS0 C956 X1061 (b_24 hw) at_620 [(.ref o4956), (.ref b973), (.int (Int32.ofNat fl.length)), (.int 16)] [] 0 (rm39 hw Z1038 f1041 f1042 f1043 f1044 yb5 f1039 f1040 hcs hwf rfl (ixr 16) (by decide) hfm h28) N1061 pd_41 e1061 623 (fun T1062 _ X1062 N1062 e1062 => ?_)
          refine g_if_eq C956 X1062 at_623 784 626 (fun hc623 => absurd hc623 (by decide)) (fun hc623 => ?_)
          refine g_aload C956 X1062 at_626 628 rfl rfl ?_
          refine g_aload C956 X1062 at_628 630 rfl rfl ?_
          refine g_iload C956 X1062 at_630 632 rfl ?_
          refine g_bipush C956 X1062 at_632 634 (v := 17) rfl ?_
          refine g_callS0 C956 X1062 (b_24 hw) at_634 [(.ref o4956), (.ref b973), (.int (Int32.ofNat fl.length)), (.int 17)] [] 0 (rm39 hw Z1038 f1041 f1042 f1043 f1044 yb5 f1039 f1040 hcs hwf rfl (ixr 17) (by decide) hfm h28) N1062 pd_41 e1062 637 (fun T1063 _ X1063 N1063 e1063 => ?_)
          refine g_if_eq C956 X1063 at_637 784 640 (fun hc637 => absurd hc637 (by decide)) (fun hc637 => ?_)
          refine g_aload C956 X1063 at_640 642 rfl rfl ?_
          refine g_aload C956 X1063 at_642 644 rfl rfl ?_
          refine g_iload C956 X1063 at_644 646 rfl ?_
          refine g_bipush C956 X1063 at_646 648 (v := 18) rfl ?_
          refine g_callS0 C956 X1063 (b_24 hw) at_648 [(.ref o4956), (.ref b973), (.int (Int32.ofNat fl.length)), (.int 18)] [] 0 (rm39 hw Z1038 f1041 f1042 f1043 f1044 yb5 f1039 f1040 hcs hwf rfl (ixr 18) (by decide) hfm h28) N1063 pd_41 e1063 651 (fun T1064 _ X1064 N1064 e1064 => ?_)
          refine g_if_eq C956 X1064 at_651 784 654 (fun hc651 => absurd hc651 (by decide)) (fun hc651 => ?_)
          refine g_aload C956 X1064 at_654 656 rfl rfl ?_
          refine g_aload C956 X1064 at_656 658 rfl rfl ?_
          refine g_iload C956 X1064 at_658 660 rfl ?_
          refine g_bipush C956 X1064 at_660 662 (v := 19) rfl ?_
          refine g_callS0 C956 X1064 (b_24 hw) at_662 [(.ref o4956), (.ref b973), (.int (Int32.ofNat fl.length)), (.int 19)] [] 0 (rm39 hw Z1038 f1041 f1042 f1043 f1044 yb5 f1039 f1040 hcs hwf rfl (ixr 19) (by decide) hfm h28) N1064 pd_41 e1064 665 (fun T1065 _ X1065 N1065 e1065 => ?_)
          refine g_if_eq C956 X1065 at_665 784 668 (fun hc665 => absurd hc665 (by decide)) (fun hc665 => ?_)
          refine g_aload C956 X1065 at_668 670 rfl rfl ?_
          refine g_aload C956 X1065 at_670 672 rfl rfl ?_
          refine g_iload C956 X1065 at_672 674 rfl ?_
          refine g_bipush C956 X1065 at_674 676 (v := 20) rfl ?_
          refine g_callS0 C956 X1065 (b_24 hw) at_676 [(.ref o4956), (.ref b973), (.int (Int32.ofNat fl.length)), (.int 20)] [] 0 (rm39 hw Z1038 f1041 f1042 f1043 f1044 yb5 f1039 f1040 hcs hwf rfl (ixr 20) (by decide) hfm h28) N1065 pd_41 e1065 679 (fun T1066 _ X1066 N1066 e1066 => ?_)
          refine g_if_eq C956 X1066 at_679 784 682 (fun hc679 => absurd hc679 (by decide)) (fun hc679 => ?_)
          refine g_aload C956 X1066 at_682 684 rfl rfl ?_
          refine g_aload C956 X1066 at_684 686 rfl rfl ?_
          refine g_iload C956 X1066 at_686 688 rfl ?_
          refine g_bipush C956 X1066 at_688 690 (v := 21) rfl ?_
          refine g_callS0 C956 X1066 (b_24 hw) at_690 [(.ref o4956), (.ref b973), (.int (Int32.ofNat fl.length)), (.int 21)] [] 0 (rm39 hw Z1038 f1041 f1042 f1043 f1044 yb5 f1039 f1040 hcs hwf rfl (ixr 21) (by decide) hfm h28) N1066 pd_41 e1066 693 (fun T1067 _ X1067 N1067 e1067 => ?_)
          refine g_if_eq C956 X1067 at_693 784 696 (fun hc693 => absurd hc693 (by decide)) (fun hc693 => ?_)
          refine g_aload C956 X1067 at_696 698 rfl rfl ?_
          refine g_aload C956 X1067 at_698 700 rfl rfl ?_
          refine g_iload C956 X1067 at_700 702 rfl ?_
          refine g_bipush C956 X1067 at_702 704 (v := 22) rfl ?_
          refine g_callS0 C956 X1067 (b_24 hw) at_704 [(.ref o4956), (.ref b973), (.int (Int32.ofNat fl.length)), (.int 22)] [] 0 (rm39 hw Z1038 f1041 f1042 f1043 f1044 yb5 f1039 f1040 hcs hwf rfl (ixr 22) (by decide) hfm h28) N1067 pd_41 e1067 707 (fun T1068 _ X1068 N1068 e1068 => ?_)
          refine g_if_eq C956 X1068 at_707 784 710 (fun hc707 => absurd hc707 (by decide)) (fun hc707 => ?_)
          refine g_aload C956 X1068 at_710 712 rfl rfl ?_
          refine g_aload C956 X1068 at_712 714 rfl rfl ?_
          refine g_iload C956 X1068 at_714 716 rfl ?_
          refine g_bipush C956 X1068 at_716 718 (v := 23) rfl ?_
          refine g_callS0 C956 X1068 (b_24 hw) at_718 [(.ref o4956), (.ref b973), (.int (Int32.ofNat fl.length)), (.int 23)] [] 0 (rm39 hw Z1038 f1041 f1042 f1043 f1044 yb5 f1039 f1040 hcs hwf rfl (ixr 23) (by decide) hfm h28) N1068 pd_41 e1068 721 (fun T1069 _ X1069 N1069 e1069 => ?_)
          refine g_if_eq C956 X1069 at_721 784 724 (fun hc721 => absurd hc721 (by decide)) (fun hc721 => ?_)
          refine g_aload C956 X1069 at_724 726 rfl rfl ?_
          refine g_aload C956 X1069 at_726 728 rfl rfl ?_
          refine g_iload C956 X1069 at_728 730 rfl ?_
          refine g_bipush C956 X1069 at_730 732 (v := 24) rfl ?_
          refine g_callS0 C956 X1069 (b_24 hw) at_732 [(.ref o4956), (.ref b973), (.int (Int32.ofNat fl.length)), (.int 24)] [] 0 (rm39 hw Z1038 f1041 f1042 f1043 f1044 yb5 f1039 f1040 hcs hwf rfl (ixr 24) (by decide) hfm h28) N1069 pd_41 e1069 735 (fun T1070 _ X1070 N1070 e1070 => ?_)
          refine g_if_eq C956 X1070 at_735 784 738 (fun hc735 => absurd hc735 (by decide)) (fun hc735 => ?_)
          refine g_aload C956 X1070 at_738 740 rfl rfl ?_
          refine g_aload C956 X1070 at_740 742 rfl rfl ?_
          refine g_iload C956 X1070 at_742 744 rfl ?_
          refine g_bipush C956 X1070 at_744 746 (v := 25) rfl ?_
          refine g_callS0 C956 X1070 (b_24 hw) at_746 [(.ref o4956), (.ref b973), (.int (Int32.ofNat fl.length)), (.int 25)] [] 0 (rm39 hw Z1038 f1041 f1042 f1043 f1044 yb5 f1039 f1040 hcs hwf rfl (ixr 25) (by decide) hfm h28) N1070 pd_41 e1070 749 (fun T1071 _ X1071 N1071 e1071 => ?_)
          refine g_if_eq C956 X1071 at_749 784 752 (fun hc749 => absurd hc749 (by decide)) (fun hc749 => ?_)
          refine g_aload C956 X1071 at_752 754 rfl rfl ?_
          refine g_aload C956 X1071 at_754 756 rfl rfl ?_
          refine g_iload C956 X1071 at_756 758 rfl ?_
          refine g_bipush C956 X1071 at_758 760 (v := 26) rfl ?_
          refine g_callS0 C956 X1071 (b_24 hw) at_760 [(.ref o4956), (.ref b973), (.int (Int32.ofNat fl.length)), (.int 26)] [] 0 (rm39 hw Z1038 f1041 f1042 f1043 f1044 yb5 f1039 f1040 hcs hwf rfl (ixr 26) (by decide) hfm h28) N1071 pd_41 e1071 763 (fun T1072 _ X1072 N1072 e1072 => ?_)
          refine g_if_eq C956 X1072 at_763 784 766 (fun hc763 => absurd hc763 (by decide)) (fun hc763 => ?_)
          refine g_aload C956 X1072 at_766 768 rfl rfl ?_
          refine g_aload C956 X1072 at_768 770 rfl rfl ?_
          refine g_iload C956 X1072 at_770 772 rfl ?_
          refine g_bipush C956 X1072 at_772 774 (v := 27) rfl ?_
          refine g_callS0 C956 X1072 (b_24 hw) at_774 [(.ref o4956), (.ref b973), (.int (Int32.ofNat fl.length)), (.int 27)] [] 0 (rm39 hw Z1038 f1041 f1042 f1043 f1044 yb5 f1039 f1040 hcs hwf rfl (ixr 27) (by decide) hfm h28) N1072 pd_41 e1072 777 (fun T1073 _ X1073 N1073 e1073 => ?_)
          refine g_if_eq C956 X1073 at_777 784 780 (fun hc777 => absurd hc777 (by decide)) (fun hc777 => ?_)
          refine g_iconst C956 X1073 at_780 781 (v := 1) rfl ?_
          refine g_goto C956 X1073 at_781 785 ?_
          exact g_retNH C956 X1073 K hS956 hk1038 hEL H_1038 R_1038 (by simp) at_785 (by decide) (by decide) e1073 ⟨rfl, N1073⟩
      refine g_if_eq C X904 at_191 198 194 (fun hc191 => ?_) (fun hc191 => ?_)
      · refine g_iload C X904 at_198 200 rfl ?_
        exact j200 _
      · refine g_iconst C X904 at_194 195 (v := 0) rfl ?_
        refine g_goto C X904 at_195 200 ?_
        exact j200 _
    refine g_if_eq C X0 at_26 33 29 (fun hc26 => ?_) (fun hc26 => ?_)
    · refine g_iconst C X0 at_33 34 (v := 0) rfl ?_
      exact j34 _
    · refine g_iconst C X0 at_29 30 (v := 1) rfl ?_
      refine g_goto C X0 at_30 34 ?_
      exact j34 _
set_option maxRecDepth 65536 in
set_option maxHeartbeats 40000000 in
theorem comes_1 {Post : Tables → Env → Array Value → State → Outcome → State → Prop} (hpost : ∀ tb e args s v u, (limb_1_1.after args s (.returned v) u = true ∧ limb_1_2.after args s (.returned v) u = true ∧ True) → ReturnedEndW s (.returned v) u (Jvm.fieldLocs frame_1_writes args s ++ Jvm.arrayLocs frame_1_arrays args s ++ Jvm.staticLocs frame_1_statics s) 80 2816 → Post tb e args s (.returned v) u) :
    ArmFor flags0 classFile x code maxLocals ret World_1 tables_1 room_1 Calls_1 rest_1 Pre_1 Post := by
  intro l hfl _ _ p e ha hc hk s m args below hf hA hF happ hP
  obtain ⟨hcalls, hrest, hpre⟩ := hP
  obtain ⟨-, -, -, hnamed, -, -, -, hat⟩ := (Spec.applies_iff hf).mp happ
  obtain ⟨hg, hn⟩ := and_e (Cond.before_iff.mp (show (Jvm.Cond.and given_1 narrow_1).before args s = true from hpre))
  obtain ⟨gc, g0⟩ := and_e hg
  obtain ⟨k0, g1⟩ := and_e g0
  obtain ⟨k1, g2⟩ := and_e g1
  obtain ⟨k2, g3⟩ := and_e g2
  obtain ⟨k3, g4⟩ := and_e g3
  obtain ⟨k4, g5⟩ := and_e g4
  have k5 := g5
  obtain ⟨w0, w1, w2, w3, w4, w5, rfl⟩ : ∃ w0 w1 w2 w3 w4 w5 : Value, args = #[w0, w1, w2, w3, w4, w5] := by
    have hs : args.size = 6 := by simpa [Cond.value, given_1] using gc
    obtain ⟨L⟩ := args
    match L, hs with
    | [w0, w1, w2, w3, w4, w5], _ => exact ⟨w0, w1, w2, w3, w4, w5, rfl⟩
  have hw := fun d (hd : d ∈ tables_1) => atoms_spec (ws := Jvm.Cond.code x code maxLocals ret :: tables_1) hat d (List.mem_cons_of_mem _ hd)
  obtain ⟨i0, ei0⟩ := is_v k0
  obtain rfl : w0 = (.int i0) := Option.some.inj ei0
  obtain ⟨i1, ei1⟩ := is_v k1
  obtain rfl : w1 = (.int i1) := Option.some.inj ei1
  obtain ⟨i2, ei2⟩ := is_v k2
  obtain rfl : w2 = (.int i2) := Option.some.inj ei2
  obtain ⟨i3, ei3⟩ := is_v k3
  obtain rfl : w3 = (.int i3) := Option.some.inj ei3
  obtain ⟨i4, ei4⟩ := is_v k4
  obtain rfl : w4 = (.int i4) := Option.some.inj ei4
  obtain ⟨i5, ei5⟩ := is_v k5
  obtain rfl : w5 = (.int i5) := Option.some.inj ei5
  obtain ⟨hsets, hown0⟩ := atoms_of _ (rest_1_c_eq ▸ (show rest_1_c.before _ s = true from hrest))
  obtain ⟨cs1, ecs⟩ := is_v (Cond.before_iff.mp (hsets _ (List.mem_of_getElem? (i := 1) rfl)))
  have S1 := Sta.start ecs (Or.inl (hsets _ (List.mem_of_getElem? (i := 0) rfl)))
  have hcs := own_ne0 ecs (not_v (Cond.before_iff.mp (hsets _ (List.mem_of_getElem? (i := 2) rfl))))
  obtain ⟨wf1, ewf, hwf⟩ := isR_v (Cond.before_iff.mp (hsets _ (List.mem_of_getElem? (i := 8) rfl)))
  have S2 := Sta.start ewf (Or.inl (hsets _ (List.mem_of_getElem? (i := 7) rfl)))
  have hEL : EW s _ EL := EW.cons (hw _ (List.mem_of_getElem? (i := 59) rfl)) (by decide) (EW.cons (hw _ (List.mem_of_getElem? (i := 127) rfl)) (by decide) (EW.nil))
  have hCH : CHv s EL s.vm s.heap := CHv.start hEL (fun q hq => hcalls.1 q ((show ∀ q ∈ EL, q ∈ consts_1 from by decide +kernel) q hq)) (hsets _ (List.mem_of_getElem? (i := 2) rfl)) (w_14 hw) (w_10 hw)
  obtain ⟨o7, kd7, S7, V7⟩ := tab_start (nm := "DigitOnes") (F := fun r => 48 + r % 10) (hsets _ (List.mem_of_getElem? (i := 11) rfl)) (hsets _ (List.mem_of_getElem? (i := 12) rfl)) (hsets _ (List.mem_of_getElem? (i := 13) rfl)) (hsets _ (List.mem_of_getElem? (i := 14) rfl)) (fun r hr => (congrArg (fun z => some (Value.int z)) (ones_num r hr))) ones_fit (w_14 hw)
  obtain ⟨o8, kd8, S8, V8⟩ := tab_start (nm := "DigitTens") (F := fun r => 48 + r / 10) (hsets _ (List.mem_of_getElem? (i := 16) rfl)) (hsets _ (List.mem_of_getElem? (i := 17) rfl)) (hsets _ (List.mem_of_getElem? (i := 18) rfl)) (hsets _ (List.mem_of_getElem? (i := 19) rfl)) (fun r hr => (congrArg (fun z => some (Value.int z)) (tens_num r hr))) tens_fit (w_14 hw)
  obtain ⟨n, o, h1, h2, h3, _, L, rfl, ⟨rfl, N⟩, -, hq⟩ := rm0 l s _ hw tables_1 i0 i1 i2 i3 i4 i5 cs1 wf1 o7 o8 kd7 kd8 s.heap s.heap.size (Nat.le_refl _) hEL S1 S2 S7 S8 V7 V8 hcs hwf p e ha hc hk s m _ below hf ((Spec.applies_iff_loose hf).mp happ).1 ⟨rfl, State.Warmed39.refl s, rfl, hCH⟩ trivial
  refine ⟨n, _, h1, h2, h3, hpost _ _ _ _ _ _ ⟨Cond.after_iff.mpr rfl, Cond.after_iff.mpr (eq_i res_at (Term.int_eval (1)) rfl), trivial⟩ ⟨hq.1, hq.2.1, hq.2.2.1, (hq.2.2.2.sift fun y hy => Or.inr (N y hy)).mono (by decide) (by decide)⟩⟩
theorem main_1_1 : Claimed_1_1 := comes_1 fun _ _ _ _ _ _ h hF => ⟨h.1, hF⟩
theorem main_1_2 : Claimed_1_2 := comes_1 fun _ _ _ _ _ _ h hF => ⟨h.2.1, hF⟩
end Jvm.Pilot.@@N@@
namespace Jvm.Pilot.@@N@@
open Jvm Jvm.ClassFile Sem Op Lib Jvm.Free Jvm.Stand Jvm.Pilot.@@N@@.Jvm.D
/-! MADE BY PROGRAM (witnessworld.py) out of the Statement's table words and the real class files: 31 classes; the members and pool entries that the words name. The judged class is class 1, her method 1. -/
namespace start1
open Jvm.ClassFile
def u (s : String) : CpInfo := .utf8 (stringToUtf16 s)
/-- a pool by its gaps: so many unusable entries, then the entry; so many at the end -/
def gap : Nat → List CpInfo → List CpInfo
  | 0, r => r
  | n + 1, r => .unusable :: gap n r
def poolList (es : List (Nat × CpInfo)) (last : Nat) : List CpInfo := es.foldr (fun e r => gap e.1 (e.2 :: r)) (gap last [])
def pool (es : List (Nat × CpInfo)) (last : Nat) : Array CpInfo := ⟨poolList es last⟩
def fileOf (pool : Array CpInfo) (this : Nat) (attrs : Array Attribute := #[]) (ms : Array MethodInfo := #[]) (fl : Nat := 33) (sup : Nat := 0) (ifs : Array Nat := #[]) (fds : Array FieldInfo := #[]) : ClassFile where
  minorVersion := 0
  majorVersion := 65
  constantPool := pool
  accessFlags := fl
  thisClass := this
  superClass := sup
  interfaces := ifs
  fields := fds
  methods := ms
  attributes := attrs
def plain (name : String) (sup : Option ClassId) : Class where
  name := name
  kind := .ordinary
  loader := none
  accessFlags := 33
  super := sup
  interfaces := #[]
  cf := none
  fields := #[]
  methods := #[]
  instanceTypes := #[]
  staticTypes := #[]
  resolved := #[]
  callSites := []
  init := .initialized
  statics := none
  mirror := none

def pool0 : Array CpInfo := pool [(5, u "<init>"), (0, u "()V"), (1, .class_ 10), (1, u "java/lang/Object"), (85, u "clone"), (0, u "()Ljava/lang/Object;")] 26

def k0c0 : Code := { maxStack := 0, maxLocals := 1, code := object_method_1_code, exceptionTable := #[], attributes := #[] }
def k0m0 : Method := { name := "<init>", desc := "()V", sig := { parameters := [], returnType := none }, accessFlags := 1, code := some k0c0 }
def k0m1 : Method := { name := "clone", desc := "()Ljava/lang/Object;", sig := { parameters := [], returnType := some (.object "java/lang/Object") }, accessFlags := 260, code := none }
/-- java/lang/Object -/
def k0 : Class := { plain "java/lang/Object" none with
  accessFlags := 33
  interfaces := #[]
  cf := some (fileOf pool0 8 #[] #[{ accessFlags := 1, nameIndex := 5, descriptorIndex := 6, attributes := #[] }, { accessFlags := 260, nameIndex := 96, descriptorIndex := 97, attributes := #[] }] 33 0 #[] #[])
  fields := #[]
  methods := #[k0m0, k0m1]
  instanceTypes := #[]
  staticTypes := #[]
  resolved := Array.replicate 124 none
  statics := none }

def pool1 : Array CpInfo := pool [(2, .class_ 4), (1, u "java/lang/Object"), (0, u "<init>"), (0, u "()V"), (0, .methodref 8 9), (0, .class_ 10), (0, .nameAndType 11 12), (0, u "java/lang/String"), (0, u "valueOf"), (0, u "(C)Ljava/lang/String;"), (0, .methodref 8 14), (0, .nameAndType 5 15), (0, u "([C)V"), (0, .class_ 17), (0, u "com/example/mortise/mortise/core/Problem"), (0, .methodref 16 19), (0, .nameAndType 5 20), (0, u "(Ljava/lang/String;IILjava/lang/String;)V"), (0, .methodref 16 22), (0, .nameAndType 23 24), (0, u "location"), (0, u "()Ljava/lang/String;"), (0, .methodref 8 26), (0, .nameAndType 27 28), (0, u "equals"), (0, u "(Ljava/lang/Object;)Z"), (0, .methodref 30 31), (0, .class_ 32), (0, .nameAndType 33 34), (0, u "com/example/mortise/mortise/core/ProblemLocationPinLaw"), (0, u "put"), (0, u "([CII)I"), (0, .methodref 8 36), (0, .nameAndType 37 38), (0, u "length"), (0, u "()I"), (0, .methodref 30 40), (0, .nameAndType 41 42), (0, u "at"), (0, u "(Ljava/lang/String;[CII)Z"), (0, .methodref 8 44), (0, .nameAndType 45 46), (0, u "charAt"), (0, u "(I)C"), (0, .long 10), (1, .long 100), (1, .long 1000), (1, .long 10000), (1, .long 100000), (1, .long 1000000), (1, .long 10000000), (1, .long 100000000), (1, .long 1000000000), (1, .methodref 30 66), (0, .nameAndType 67 68), (0, u "digits"), (0, u "(J)I"), (0, .methodref 30 70), (0, .nameAndType 71 72), (0, u "one"), (0, u "([CIJII)V"), (2, u "law"), (0, u "(IIIIII)Z")] 5

def k1m0 : Method := { name := "<init>", desc := "()V", sig := { parameters := [], returnType := none }, accessFlags := 2, code := none }
def k1c1 : Code := { maxStack := 6, maxLocals := 19, code := code, exceptionTable := #[], attributes := #[] }
def k1m1 : Method := { name := "law", desc := "(IIIIII)Z", sig := { parameters := [.int, .int, .int, .int, .int, .int], returnType := some .boolean }, accessFlags := 9, code := some k1c1 }
def k1c2 : Code := { maxStack := 3, maxLocals := 4, code := method_3_code, exceptionTable := #[], attributes := #[] }
def k1m2 : Method := { name := "at", desc := "(Ljava/lang/String;[CII)Z", sig := { parameters := [(.object "java/lang/String"), (.array .char), .int, .int], returnType := some .boolean }, accessFlags := 10, code := some k1c2 }
def k1c3 : Code := { maxStack := 4, maxLocals := 3, code := method_4_code, exceptionTable := #[], attributes := #[] }
def k1m3 : Method := { name := "digits", desc := "(J)I", sig := { parameters := [.long], returnType := some .int }, accessFlags := 10, code := some k1c3 }
def k1c4 : Code := { maxStack := 8, maxLocals := 7, code := method_5_code, exceptionTable := #[], attributes := #[] }
def k1m4 : Method := { name := "one", desc := "([CIJII)V", sig := { parameters := [(.array .char), .int, .long, .int, .int], returnType := none }, accessFlags := 10, code := some k1c4 }
def k1c5 : Code := { maxStack := 6, maxLocals := 7, code := method_6_code, exceptionTable := #[], attributes := #[] }
def k1m5 : Method := { name := "put", desc := "([CII)I", sig := { parameters := [(.array .char), .int, .int], returnType := some .int }, accessFlags := 10, code := some k1c5 }
/-- com/example/mortise/mortise/core/ProblemLocationPinLaw -/
def k1 : Class := { plain "com/example/mortise/mortise/core/ProblemLocationPinLaw" (some 0) with
  accessFlags := 49
  interfaces := #[]
  cf := some (fileOf pool1 30 #[] #[{ accessFlags := 2, nameIndex := 5, descriptorIndex := 6, attributes := #[] }, { accessFlags := 9, nameIndex := 75, descriptorIndex := 76, attributes := #[] }, { accessFlags := 10, nameIndex := 41, descriptorIndex := 42, attributes := #[] }, { accessFlags := 10, nameIndex := 67, descriptorIndex := 68, attributes := #[] }, { accessFlags := 10, nameIndex := 71, descriptorIndex := 72, attributes := #[] }, { accessFlags := 10, nameIndex := 33, descriptorIndex := 34, attributes := #[] }] 49 2 #[] #[])
  fields := #[]
  methods := #[k1m0, k1m1, k1m2, k1m3, k1m4, k1m5]
  instanceTypes := #[]
  staticTypes := #[]
  resolved := Array.replicate 82 none
  statics := none }

def pool2 : Array CpInfo := pool [(1, .class_ 2), (0, u "java/io/Serializable"), (0, .class_ 4), (0, u "java/lang/Object")] 2

/-- java/io/Serializable -/
def k2 : Class := { plain "java/io/Serializable" (some 0) with
  accessFlags := 1537
  interfaces := #[]
  cf := some (fileOf pool2 1 #[] #[] 1537 3 #[] #[])
  fields := #[]
  methods := #[]
  instanceTypes := #[]
  staticTypes := #[]
  resolved := Array.replicate 7 none
  statics := none }

def pool3 : Array CpInfo := pool [(1, .class_ 2), (0, u "java/lang/Comparable"), (0, .class_ 4), (0, u "java/lang/Object")] 7

/-- java/lang/Comparable -/
def k3 : Class := { plain "java/lang/Comparable" (some 0) with
  accessFlags := 1537
  interfaces := #[]
  cf := some (fileOf pool3 1 #[] #[] 1537 3 #[] #[])
  fields := #[]
  methods := #[]
  instanceTypes := #[]
  staticTypes := #[]
  resolved := Array.replicate 12 none
  statics := none }

def pool4 : Array CpInfo := pool [(2, .class_ 4), (1, u "java/lang/CharSequence"), (42, .class_ 48), (0, u "java/lang/CharSequence$1CodePointIterator"), (10, .class_ 60), (0, u "java/lang/CharSequence$1CharIterator"), (5, .class_ 67), (0, u "java/lang/Object")] 63

/-- java/lang/CharSequence -/
def k4 : Class := { plain "java/lang/CharSequence" (some 0) with
  accessFlags := 1537
  interfaces := #[]
  cf := some (fileOf pool4 2 #[.nestMembers #[47, 59]] #[] 1537 66 #[] #[])
  fields := #[]
  methods := #[]
  instanceTypes := #[]
  staticTypes := #[]
  resolved := Array.replicate 131 none
  statics := none }

def pool5 : Array CpInfo := pool [(1, .class_ 2), (0, u "java/lang/constant/Constable"), (0, .class_ 4), (0, u "java/lang/Object")] 6

/-- java/lang/constant/Constable -/
def k5 : Class := { plain "java/lang/constant/Constable" (some 0) with
  accessFlags := 1537
  interfaces := #[]
  cf := some (fileOf pool5 1 #[] #[] 1537 3 #[] #[])
  fields := #[]
  methods := #[]
  instanceTypes := #[]
  staticTypes := #[]
  resolved := Array.replicate 11 none
  statics := none }

def pool6 : Array CpInfo := pool [(1, .class_ 2), (0, u "java/lang/constant/ConstantDesc"), (0, .class_ 4), (0, u "java/lang/Object")] 32

/-- java/lang/constant/ConstantDesc -/
def k6 : Class := { plain "java/lang/constant/ConstantDesc" (some 0) with
  accessFlags := 1537
  interfaces := #[]
  cf := some (fileOf pool6 1 #[] #[] 1537 3 #[] #[])
  fields := #[]
  methods := #[]
  instanceTypes := #[]
  staticTypes := #[]
  resolved := Array.replicate 37 none
  statics := none }

def pool7 : Array CpInfo := pool [(1, .methodref 2 3), (0, .class_ 4), (0, .nameAndType 5 6), (0, u "java/lang/Object"), (0, u "<init>"), (0, u "()V"), (0, .string 8), (0, u ""), (0, .fieldref 10 11), (0, .class_ 12), (0, .nameAndType 13 14), (0, u "java/lang/String"), (0, u "value"), (0, u "[B"), (0, .fieldref 10 16), (0, .nameAndType 17 18), (0, u "coder"), (0, u "B"), (2, u "hash"), (0, u "I"), (2, u "hashIsZero"), (0, u "Z"), (0, .methodref 10 28), (0, .nameAndType 5 29), (0, u "([CIILjava/lang/Void;)V"), (8, .fieldref 10 39), (0, .nameAndType 40 26), (0, u "COMPACT_STRINGS"), (1, .class_ 44), (1, u "java/lang/StringUTF16"), (0, u "compress"), (1, .methodref 42 48), (0, .nameAndType 49 50), (0, u "coderFromArrayLen"), (0, u "([BI)B"), (2, u "toBytes"), (0, .methodref 55 56), (0, .class_ 57), (0, .nameAndType 58 59), (0, u "java/util/Arrays"), (0, u "copyOfRange"), (0, u "([BII)[B"), (47, .class_ 109), (1, u "java/lang/StringLatin1"), (32, u "()Z"), (34, .methodref 42 178), (0, .nameAndType 45 179), (0, u "([CII)[B"), (13, .class_ 195), (1, u "java/lang/System"), (13, .methodref 10 210), (0, .nameAndType 5 211), (0, u "([BB)V"), (0, .methodref 193 213), (0, .nameAndType 214 215), (0, u "arraycopy"), (0, u "(Ljava/lang/Object;ILjava/lang/Object;II)V"), (118, u "()I"), (0, .methodref 10 336), (0, .nameAndType 17 337), (0, u "()B"), (2, u "()[B"), (22, u "([BI)C"), (5, u "(C)Z"), (21, u "(II)V"), (35, u "(I)C"), (61, .methodref 10 490), (0, .nameAndType 5 491), (0, u "(Ljava/lang/AbstractStringBuilder;Ljava/lang/Void;)V"), (0, .methodref 10 493), (0, .nameAndType 494 142), (0, u "isLatin1"), (0, .methodref 107 496), (0, .nameAndType 497 363), (0, u "charAt"), (3, u "checkIndex"), (4, .nameAndType 507 334), (0, u "length"), (24, u "getBytes"), (10, u "equals"), (5, .methodref 550 506), (0, .class_ 551), (0, u "java/lang/AbstractStringBuilder"), (0, .methodref 550 553), (0, .nameAndType 554 340), (0, u "getValue"), (18, u "(Ljava/lang/Object;)Z"), (1, .class_ 576), (0, u "java/lang/CharSequence"), (22, u "CASE_INSENSITIVE_ORDER"), (0, u "Ljava/util/Comparator;"), (181, u "valueOf"), (0, u "(C)Ljava/lang/String;"), (37, u "([BIB)V"), (188, u "([C)V"), (4, .methodref 107 1016), (0, .nameAndType 1017 369), (0, u "canEncode"), (0, .methodref 107 1019), (0, .nameAndType 53 1020), (0, u "(C)[B"), (26, .methodref 550 493), (5, .fieldref 1054 1055), (0, .class_ 1056), (0, .nameAndType 1057 1058), (0, u "jdk/internal/util/Preconditions"), (0, u "SIOOBE_FORMATTER"), (0, u "Ljava/util/function/BiFunction;"), (0, .methodref 1054 1060), (0, .nameAndType 501 1061), (0, u "(IILjava/util/function/BiFunction;)I"), (39, u "serialPersistentFields"), (0, u "[Ljava/io/ObjectStreamField;"), (0, .class_ 1104), (0, u "java/lang/String$CaseInsensitiveComparator"), (1, .class_ 1107), (0, u "java/io/Serializable"), (0, .class_ 1109), (0, u "java/lang/Comparable"), (0, .class_ 1111), (0, u "java/lang/constant/Constable"), (0, .class_ 1113), (0, u "java/lang/constant/ConstantDesc"), (2, u "serialVersionUID"), (0, u "J"), (3, u "REPL"), (0, u "C"), (2, u "LATIN1"), (1, u "UTF16"), (105, u "(Ljava/lang/StringBuilder;)V")] 217

def k7m0 : Method := { name := "<init>", desc := "()V", sig := { parameters := [], returnType := none }, accessFlags := 1, code := none }
def k7c1 : Code := { maxStack := 5, maxLocals := 2, code := jdk_42_method_3_code, exceptionTable := #[], attributes := #[] }
def k7m1 : Method := { name := "<init>", desc := "([C)V", sig := { parameters := [(.array .char)], returnType := none }, accessFlags := 1, code := some k7c1 }
def k7c2 : Code := { maxStack := 3, maxLocals := 2, code := jdk_42_method_53_code, exceptionTable := #[], attributes := #[] }
def k7m2 : Method := { name := "<init>", desc := "(Ljava/lang/StringBuilder;)V", sig := { parameters := [(.object "java/lang/StringBuilder")], returnType := none }, accessFlags := 1, code := some k7c2 }
def k7c3 : Code := { maxStack := 2, maxLocals := 1, code := jdk_42_method_54_code, exceptionTable := #[], attributes := #[] }
def k7m3 : Method := { name := "length", desc := "()I", sig := { parameters := [], returnType := some .int }, accessFlags := 1, code := some k7c3 }
def k7c4 : Code := { maxStack := 2, maxLocals := 2, code := jdk_42_method_56_code, exceptionTable := #[], attributes := #[] }
def k7m4 : Method := { name := "charAt", desc := "(I)C", sig := { parameters := [.int], returnType := some .char }, accessFlags := 1, code := some k7c4 }
def k7c5 : Code := { maxStack := 2, maxLocals := 3, code := jdk_42_method_66_code, exceptionTable := #[], attributes := #[] }
def k7m5 : Method := { name := "equals", desc := "(Ljava/lang/Object;)Z", sig := { parameters := [(.object "java/lang/Object")], returnType := some .boolean }, accessFlags := 1, code := some k7c5 }
def k7c6 : Code := { maxStack := 4, maxLocals := 1, code := jdk_42_method_139_code, exceptionTable := #[], attributes := #[] }
def k7m6 : Method := { name := "valueOf", desc := "(C)Ljava/lang/String;", sig := { parameters := [.char], returnType := some (.object "java/lang/String") }, accessFlags := 9, code := some k7c6 }
def k7c7 : Code := { maxStack := 5, maxLocals := 4, code := jdk_42_method_147_code, exceptionTable := #[], attributes := #[] }
def k7m7 : Method := { name := "getBytes", desc := "([BIB)V", sig := { parameters := [(.array .byte), .int, .byte], returnType := none }, accessFlags := 0, code := some k7c7 }
def k7c8 : Code := { maxStack := 4, maxLocals := 6, code := jdk_42_method_149_code, exceptionTable := #[], attributes := #[] }
def k7m8 : Method := { name := "<init>", desc := "([CIILjava/lang/Void;)V", sig := { parameters := [(.array .char), .int, .int, (.object "java/lang/Void")], returnType := none }, accessFlags := 2, code := some k7c8 }
def k7c9 : Code := { maxStack := 5, maxLocals := 5, code := jdk_42_method_150_code, exceptionTable := #[], attributes := #[] }
def k7m9 : Method := { name := "<init>", desc := "(Ljava/lang/AbstractStringBuilder;Ljava/lang/Void;)V", sig := { parameters := [(.object "java/lang/AbstractStringBuilder"), (.object "java/lang/Void")], returnType := none }, accessFlags := 0, code := some k7c9 }
def k7c10 : Code := { maxStack := 2, maxLocals := 3, code := jdk_42_method_151_code, exceptionTable := #[], attributes := #[] }
def k7m10 : Method := { name := "<init>", desc := "([BB)V", sig := { parameters := [(.array .byte), .byte], returnType := none }, accessFlags := 0, code := some k7c10 }
def k7c11 : Code := { maxStack := 1, maxLocals := 1, code := jdk_42_method_152_code, exceptionTable := #[], attributes := #[] }
def k7m11 : Method := { name := "coder", desc := "()B", sig := { parameters := [], returnType := some .byte }, accessFlags := 0, code := some k7c11 }
def k7c12 : Code := { maxStack := 1, maxLocals := 1, code := jdk_42_method_154_code, exceptionTable := #[], attributes := #[] }
def k7m12 : Method := { name := "isLatin1", desc := "()Z", sig := { parameters := [], returnType := some .boolean }, accessFlags := 0, code := some k7c12 }
def k7c13 : Code := { maxStack := 3, maxLocals := 2, code := jdk_42_method_155_code, exceptionTable := #[], attributes := #[] }
def k7m13 : Method := { name := "checkIndex", desc := "(II)V", sig := { parameters := [.int, .int], returnType := none }, accessFlags := 8, code := some k7c13 }
/-- java/lang/String -/
def k7 : Class := { plain "java/lang/String" (some 0) with
  accessFlags := 49
  interfaces := #[2, 3, 4, 5, 6]
  cf := some (fileOf pool7 10 #[.nestMembers #[1103]] #[{ accessFlags := 1, nameIndex := 5, descriptorIndex := 6, attributes := #[] }, { accessFlags := 1, nameIndex := 5, descriptorIndex := 1010, attributes := #[] }, { accessFlags := 1, nameIndex := 5, descriptorIndex := 1233, attributes := #[] }, { accessFlags := 1, nameIndex := 507, descriptorIndex := 334, attributes := #[] }, { accessFlags := 1, nameIndex := 497, descriptorIndex := 427, attributes := #[] }, { accessFlags := 1, nameIndex := 543, descriptorIndex := 573, attributes := #[] }, { accessFlags := 9, nameIndex := 782, descriptorIndex := 783, attributes := #[] }, { accessFlags := 0, nameIndex := 532, descriptorIndex := 821, attributes := #[] }, { accessFlags := 2, nameIndex := 5, descriptorIndex := 29, attributes := #[] }, { accessFlags := 0, nameIndex := 5, descriptorIndex := 491, attributes := #[] }, { accessFlags := 0, nameIndex := 5, descriptorIndex := 211, attributes := #[] }, { accessFlags := 0, nameIndex := 17, descriptorIndex := 337, attributes := #[] }, { accessFlags := 0, nameIndex := 494, descriptorIndex := 142, attributes := #[] }, { accessFlags := 8, nameIndex := 501, descriptorIndex := 391, attributes := #[] }] 49 2 #[1106, 1108, 575, 1110, 1112] #[{ accessFlags := 18, nameIndex := 13, descriptorIndex := 14, attributes := #[] }, { accessFlags := 18, nameIndex := 17, descriptorIndex := 18, attributes := #[] }, { accessFlags := 2, nameIndex := 21, descriptorIndex := 22, attributes := #[] }, { accessFlags := 2, nameIndex := 25, descriptorIndex := 26, attributes := #[] }, { accessFlags := 26, nameIndex := 1116, descriptorIndex := 1117, attributes := #[] }, { accessFlags := 24, nameIndex := 40, descriptorIndex := 26, attributes := #[] }, { accessFlags := 26, nameIndex := 1101, descriptorIndex := 1102, attributes := #[] }, { accessFlags := 26, nameIndex := 1121, descriptorIndex := 1122, attributes := #[] }, { accessFlags := 25, nameIndex := 599, descriptorIndex := 600, attributes := #[] }, { accessFlags := 24, nameIndex := 1125, descriptorIndex := 18, attributes := #[] }, { accessFlags := 24, nameIndex := 1127, descriptorIndex := 18, attributes := #[] }])
  fields := #[{ name := "value", type := (.array .byte), accessFlags := 18, slot := 0, constantValue := 0 }, { name := "coder", type := .byte, accessFlags := 18, slot := 1, constantValue := 0 }, { name := "hash", type := .int, accessFlags := 2, slot := 2, constantValue := 0 }, { name := "hashIsZero", type := .boolean, accessFlags := 2, slot := 3, constantValue := 0 }, { name := "serialVersionUID", type := .long, accessFlags := 26, slot := 0, constantValue := 0 }, { name := "COMPACT_STRINGS", type := .boolean, accessFlags := 24, slot := 1, constantValue := 0 }, { name := "serialPersistentFields", type := (.array (.object "java/io/ObjectStreamField")), accessFlags := 26, slot := 2, constantValue := 0 }, { name := "REPL", type := .char, accessFlags := 26, slot := 3, constantValue := 0 }, { name := "CASE_INSENSITIVE_ORDER", type := (.object "java/util/Comparator"), accessFlags := 25, slot := 4, constantValue := 0 }, { name := "LATIN1", type := .byte, accessFlags := 24, slot := 5, constantValue := 0 }, { name := "UTF16", type := .byte, accessFlags := 24, slot := 6, constantValue := 0 }]
  methods := #[k7m0, k7m1, k7m2, k7m3, k7m4, k7m5, k7m6, k7m7, k7m8, k7m9, k7m10, k7m11, k7m12, k7m13]
  instanceTypes := #[(.array .byte), .byte, .int, .boolean]
  staticTypes := #[.long, .boolean, (.array (.object "java/io/ObjectStreamField")), .char, (.object "java/util/Comparator"), .byte, .byte]
  resolved := Array.replicate 1451 none
  statics := some 0 }

def pool8 : Array CpInfo := pool [(1, .class_ 2), (0, u "java/lang/String"), (1, .class_ 6), (1, u "java/lang/Object"), (0, u "<init>"), (0, u "()V"), (0, .methodref 1 10), (0, .nameAndType 11 12), (0, u "checkIndex"), (0, u "(II)V"), (1, .class_ 16), (1, u "java/lang/StringLatin1"), (36, u "([BI)C"), (36, u "canEncode"), (14, u "(C)Z"), (15, u "$assertionsDisabled"), (0, u "Z"), (98, .class_ 223), (1, u "java/lang/StringLatin1$LinesSpliterator"), (28, u "charAt"), (127, u "toBytes"), (1, u "(C)[B"), (7, .class_ 391), (0, u "java/lang/StringLatin1$CharsSpliterator")] 3

def k8m0 : Method := { name := "<init>", desc := "()V", sig := { parameters := [], returnType := none }, accessFlags := 0, code := none }
def k8c1 : Code := { maxStack := 2, maxLocals := 2, code := jdk_43_method_2_code, exceptionTable := #[], attributes := #[] }
def k8m1 : Method := { name := "charAt", desc := "([BI)C", sig := { parameters := [(.array .byte), .int], returnType := some .char }, accessFlags := 9, code := some k8c1 }
def k8c2 : Code := { maxStack := 2, maxLocals := 1, code := jdk_43_method_3_code, exceptionTable := #[], attributes := #[] }
def k8m2 : Method := { name := "canEncode", desc := "(C)Z", sig := { parameters := [.char], returnType := some .boolean }, accessFlags := 9, code := some k8c2 }
def k8c3 : Code := { maxStack := 4, maxLocals := 1, code := jdk_43_method_46_code, exceptionTable := #[], attributes := #[] }
def k8m3 : Method := { name := "toBytes", desc := "(C)[B", sig := { parameters := [.char], returnType := some (.array .byte) }, accessFlags := 9, code := some k8c3 }
/-- java/lang/StringLatin1 -/
def k8 : Class := { plain "java/lang/StringLatin1" (some 0) with
  accessFlags := 48
  interfaces := #[]
  cf := some (fileOf pool8 14 #[.nestMembers #[390, 221]] #[{ accessFlags := 0, nameIndex := 7, descriptorIndex := 8, attributes := #[] }, { accessFlags := 9, nameIndex := 252, descriptorIndex := 53, attributes := #[] }, { accessFlags := 9, nameIndex := 90, descriptorIndex := 105, attributes := #[] }, { accessFlags := 9, nameIndex := 380, descriptorIndex := 382, attributes := #[] }] 48 4 #[] #[{ accessFlags := 4120, nameIndex := 121, descriptorIndex := 122, attributes := #[] }])
  fields := #[{ name := "$assertionsDisabled", type := .boolean, accessFlags := 4120, slot := 0, constantValue := 0 }]
  methods := #[k8m0, k8m1, k8m2, k8m3]
  instanceTypes := #[]
  staticTypes := #[.boolean]
  resolved := Array.replicate 395 none
  statics := none }

def pool9 : Array CpInfo := pool [(1, .methodref 2 3), (0, .class_ 4), (0, .nameAndType 5 6), (0, u "java/lang/Object"), (0, u "<init>"), (0, u "()V"), (0, .class_ 8), (0, u "java/lang/Record")] 13

def k9c0 : Code := { maxStack := 1, maxLocals := 1, code := jdk_30_method_1_code, exceptionTable := #[], attributes := #[] }
def k9m0 : Method := { name := "<init>", desc := "()V", sig := { parameters := [], returnType := none }, accessFlags := 4, code := some k9c0 }
/-- java/lang/Record -/
def k9 : Class := { plain "java/lang/Record" (some 0) with
  accessFlags := 1057
  interfaces := #[]
  cf := some (fileOf pool9 7 #[] #[{ accessFlags := 4, nameIndex := 5, descriptorIndex := 6, attributes := #[] }] 1057 2 #[] #[])
  fields := #[]
  methods := #[k9m0]
  instanceTypes := #[]
  staticTypes := #[]
  resolved := Array.replicate 22 none
  statics := none }

def pool10 : Array CpInfo := pool [(1, .methodref 2 3), (0, .class_ 4), (0, .nameAndType 5 6), (0, u "java/lang/Record"), (0, u "<init>"), (0, u "()V"), (0, .fieldref 8 9), (0, .class_ 10), (0, .nameAndType 11 12), (0, u "com/example/mortise/mortise/core/Problem"), (0, u "path"), (0, u "Ljava/lang/String;"), (0, .fieldref 8 14), (0, .nameAndType 15 16), (0, u "line"), (0, u "I"), (0, .fieldref 8 18), (0, .nameAndType 19 16), (0, u "column"), (0, .fieldref 8 21), (0, .nameAndType 22 12), (0, u "message"), (2, u "(Ljava/lang/String;IILjava/lang/String;)V"), (0, .class_ 27), (0, u "java/lang/StringBuilder"), (0, .methodref 26 3), (2, .methodref 26 32), (0, .nameAndType 33 34), (0, u "append"), (0, u "(Ljava/lang/String;)Ljava/lang/StringBuilder;"), (0, .methodref 26 36), (0, .nameAndType 37 38), (0, u "toString"), (0, u "()Ljava/lang/String;"), (4, .string 44), (0, u ":"), (0, .methodref 26 46), (0, .nameAndType 33 47), (0, u "(I)Ljava/lang/StringBuilder;"), (34, u "location")] 30

def k10c0 : Code := { maxStack := 2, maxLocals := 5, code := prog_7_method_1_code, exceptionTable := #[], attributes := #[] }
def k10m0 : Method := { name := "<init>", desc := "(Ljava/lang/String;IILjava/lang/String;)V", sig := { parameters := [(.object "java/lang/String"), .int, .int, (.object "java/lang/String")], returnType := none }, accessFlags := 1, code := some k10c0 }
def k10c1 : Code := { maxStack := 2, maxLocals := 1, code := prog_7_method_4_code, exceptionTable := #[], attributes := #[] }
def k10m1 : Method := { name := "location", desc := "()Ljava/lang/String;", sig := { parameters := [], returnType := some (.object "java/lang/String") }, accessFlags := 1, code := some k10c1 }
/-- com/example/mortise/mortise/core/Problem -/
def k10 : Class := { plain "com/example/mortise/mortise/core/Problem" (some 9) with
  accessFlags := 49
  interfaces := #[]
  cf := some (fileOf pool10 8 #[] #[{ accessFlags := 1, nameIndex := 5, descriptorIndex := 25, attributes := #[] }, { accessFlags := 1, nameIndex := 82, descriptorIndex := 38, attributes := #[] }] 49 2 #[] #[{ accessFlags := 18, nameIndex := 11, descriptorIndex := 12, attributes := #[] }, { accessFlags := 18, nameIndex := 15, descriptorIndex := 16, attributes := #[] }, { accessFlags := 18, nameIndex := 19, descriptorIndex := 16, attributes := #[] }, { accessFlags := 18, nameIndex := 22, descriptorIndex := 12, attributes := #[] }])
  fields := #[{ name := "path", type := (.object "java/lang/String"), accessFlags := 18, slot := 0, constantValue := 0 }, { name := "line", type := .int, accessFlags := 18, slot := 1, constantValue := 0 }, { name := "column", type := .int, accessFlags := 18, slot := 2, constantValue := 0 }, { name := "message", type := (.object "java/lang/String"), accessFlags := 18, slot := 3, constantValue := 0 }]
  methods := #[k10m0, k10m1]
  instanceTypes := #[(.object "java/lang/String"), .int, .int, (.object "java/lang/String")]
  staticTypes := #[]
  resolved := Array.replicate 113 none
  statics := none }

def pool11 : Array CpInfo := pool [(1, .class_ 2), (0, u "java/lang/Appendable"), (0, .class_ 4), (0, u "java/lang/Object")] 9

/-- java/lang/Appendable -/
def k11 : Class := { plain "java/lang/Appendable" (some 0) with
  accessFlags := 1537
  interfaces := #[]
  cf := some (fileOf pool11 1 #[] #[] 1537 3 #[] #[])
  fields := #[]
  methods := #[]
  instanceTypes := #[]
  staticTypes := #[]
  resolved := Array.replicate 14 none
  statics := none }

def pool12 : Array CpInfo := pool [(1, .class_ 2), (0, u "java/lang/String"), (0, .methodref 4 5), (0, .class_ 6), (0, .nameAndType 7 8), (0, u "java/lang/Object"), (0, u "<init>"), (0, u "()V"), (1, .class_ 12), (1, u "java/lang/AbstractStringBuilder"), (0, u "EMPTYVALUE"), (0, u "[B"), (0, .fieldref 10 16), (0, .nameAndType 17 14), (0, u "value"), (0, .fieldref 1 19), (0, .nameAndType 20 21), (0, u "COMPACT_STRINGS"), (0, u "Z"), (0, .fieldref 10 23), (0, .nameAndType 24 25), (0, u "coder"), (0, u "B"), (6, .methodref 1 33), (0, .nameAndType 34 35), (0, u "length"), (0, u "()I"), (0, .class_ 37), (0, u "java/lang/Integer"), (1, .integer 2147483647), (0, .methodref 1 41), (0, .nameAndType 24 42), (0, u "()B"), (2, u "append"), (0, u "(Ljava/lang/String;)Ljava/lang/AbstractStringBuilder;"), (1, .class_ 49), (0, u "java/lang/CharSequence"), (19, u "(Ljava/lang/String;)V"), (5, u "maybeLatin1"), (3, .fieldref 10 80), (0, .nameAndType 81 82), (0, u "count"), (0, u "I"), (0, .methodref 10 84), (0, .nameAndType 85 86), (0, u "isLatin1"), (0, u "()Z"), (13, .methodref 10 101), (0, .nameAndType 102 103), (0, u "ensureCapacityInternal"), (0, u "(I)V"), (0, .methodref 10 105), (0, .nameAndType 106 107), (0, u "newCapacity"), (0, u "(I)I"), (0, .methodref 109 110), (0, .class_ 111), (0, .nameAndType 112 113), (0, u "java/util/Arrays"), (0, u "copyOf"), (0, u "([BI)[B"), (0, .methodref 115 116), (0, .class_ 117), (0, .nameAndType 118 119), (0, u "jdk/internal/util/ArraysSupport"), (0, u "newLength"), (0, u "(III)I"), (68, u "getChars"), (15, .methodref 10 205), (0, .nameAndType 206 207), (0, u "appendNull"), (0, u "()Ljava/lang/AbstractStringBuilder;"), (0, .methodref 10 209), (0, .nameAndType 210 211), (0, u "putStringAt"), (0, u "(ILjava/lang/String;)V"), (5, u "inflateIfNeededFor"), (2, .nameAndType 221 222), (0, u "getBytes"), (0, u "([BIB)V"), (22, .methodref 36 246), (0, .nameAndType 247 107), (0, u "stringSize"), (0, .methodref 36 249), (0, .nameAndType 188 250), (0, u "(II[B)I"), (146, .methodref 10 398), (0, .nameAndType 217 69), (0, .methodref 1 220), (3, u "()[B"), (40, .class_ 445), (0, u "java/lang/Appendable"), (65, u "(I)Ljava/lang/AbstractStringBuilder;"), (40, u "getValue")] 56

def k12m0 : Method := { name := "<init>", desc := "()V", sig := { parameters := [], returnType := none }, accessFlags := 0, code := none }
def k12c1 : Code := { maxStack := 2, maxLocals := 2, code := jdk_68_method_2_code, exceptionTable := #[], attributes := #[] }
def k12m1 : Method := { name := "<init>", desc := "(I)V", sig := { parameters := [.int], returnType := none }, accessFlags := 0, code := some k12c1 }
def k12c2 : Code := { maxStack := 1, maxLocals := 1, code := jdk_68_method_6_code, exceptionTable := #[], attributes := #[] }
def k12m2 : Method := { name := "length", desc := "()I", sig := { parameters := [], returnType := some .int }, accessFlags := 1, code := some k12c2 }
def k12c3 : Code := { maxStack := 4, maxLocals := 3, code := jdk_68_method_9_code, exceptionTable := #[], attributes := #[] }
def k12m3 : Method := { name := "ensureCapacityInternal", desc := "(I)V", sig := { parameters := [.int], returnType := none }, accessFlags := 2, code := some k12c3 }
def k12c4 : Code := { maxStack := 5, maxLocals := 6, code := jdk_68_method_10_code, exceptionTable := #[], attributes := #[] }
def k12m4 : Method := { name := "newCapacity", desc := "(I)I", sig := { parameters := [.int], returnType := some .int }, accessFlags := 2, code := some k12c4 }
def k12c5 : Code := { maxStack := 3, maxLocals := 3, code := jdk_68_method_22_code, exceptionTable := #[], attributes := #[] }
def k12m5 : Method := { name := "append", desc := "(Ljava/lang/String;)Ljava/lang/AbstractStringBuilder;", sig := { parameters := [(.object "java/lang/String")], returnType := some (.object "java/lang/AbstractStringBuilder") }, accessFlags := 1, code := some k12c5 }
def k12c6 : Code := { maxStack := 6, maxLocals := 3, code := jdk_68_method_26_code, exceptionTable := #[], attributes := #[] }
def k12m6 : Method := { name := "appendNull", desc := "()Ljava/lang/AbstractStringBuilder;", sig := { parameters := [], returnType := some (.object "java/lang/AbstractStringBuilder") }, accessFlags := 2, code := some k12c6 }
def k12c7 : Code := { maxStack := 4, maxLocals := 4, code := jdk_68_method_32_code, exceptionTable := #[], attributes := #[] }
def k12m7 : Method := { name := "append", desc := "(I)Ljava/lang/AbstractStringBuilder;", sig := { parameters := [.int], returnType := some (.object "java/lang/AbstractStringBuilder") }, accessFlags := 1, code := some k12c7 }
def k12c8 : Code := { maxStack := 1, maxLocals := 1, code := jdk_68_method_64_code, exceptionTable := #[], attributes := #[] }
def k12m8 : Method := { name := "getValue", desc := "()[B", sig := { parameters := [], returnType := some (.array .byte) }, accessFlags := 16, code := some k12c8 }
def k12c9 : Code := { maxStack := 1, maxLocals := 1, code := jdk_68_method_68_code, exceptionTable := #[], attributes := #[] }
def k12m9 : Method := { name := "isLatin1", desc := "()Z", sig := { parameters := [], returnType := some .boolean }, accessFlags := 16, code := some k12c9 }
def k12c10 : Code := { maxStack := 2, maxLocals := 2, code := jdk_68_method_71_code, exceptionTable := #[], attributes := #[] }
def k12m10 : Method := { name := "inflateIfNeededFor", desc := "(Ljava/lang/String;)V", sig := { parameters := [(.object "java/lang/String")], returnType := none }, accessFlags := 2, code := some k12c10 }
def k12c11 : Code := { maxStack := 4, maxLocals := 3, code := jdk_68_method_73_code, exceptionTable := #[], attributes := #[] }
def k12m11 : Method := { name := "putStringAt", desc := "(ILjava/lang/String;)V", sig := { parameters := [.int, (.object "java/lang/String")], returnType := none }, accessFlags := 2, code := some k12c11 }
/-- java/lang/AbstractStringBuilder -/
def k12 : Class := { plain "java/lang/AbstractStringBuilder" (some 0) with
  accessFlags := 1056
  interfaces := #[11, 4]
  cf := some (fileOf pool12 10 #[] #[{ accessFlags := 0, nameIndex := 7, descriptorIndex := 8, attributes := #[] }, { accessFlags := 0, nameIndex := 7, descriptorIndex := 103, attributes := #[] }, { accessFlags := 1, nameIndex := 34, descriptorIndex := 35, attributes := #[] }, { accessFlags := 2, nameIndex := 102, descriptorIndex := 103, attributes := #[] }, { accessFlags := 2, nameIndex := 106, descriptorIndex := 107, attributes := #[] }, { accessFlags := 1, nameIndex := 45, descriptorIndex := 46, attributes := #[] }, { accessFlags := 2, nameIndex := 206, descriptorIndex := 207, attributes := #[] }, { accessFlags := 1, nameIndex := 45, descriptorIndex := 511, attributes := #[] }, { accessFlags := 16, nameIndex := 552, descriptorIndex := 403, attributes := #[] }, { accessFlags := 16, nameIndex := 85, descriptorIndex := 86, attributes := #[] }, { accessFlags := 2, nameIndex := 217, descriptorIndex := 69, attributes := #[] }, { accessFlags := 2, nameIndex := 210, descriptorIndex := 211, attributes := #[] }] 1056 4 #[444, 48] #[{ accessFlags := 0, nameIndex := 17, descriptorIndex := 14, attributes := #[] }, { accessFlags := 0, nameIndex := 24, descriptorIndex := 25, attributes := #[] }, { accessFlags := 0, nameIndex := 75, descriptorIndex := 21, attributes := #[] }, { accessFlags := 0, nameIndex := 81, descriptorIndex := 82, attributes := #[] }, { accessFlags := 26, nameIndex := 13, descriptorIndex := 14, attributes := #[] }])
  fields := #[{ name := "value", type := (.array .byte), accessFlags := 0, slot := 0, constantValue := 0 }, { name := "coder", type := .byte, accessFlags := 0, slot := 1, constantValue := 0 }, { name := "maybeLatin1", type := .boolean, accessFlags := 0, slot := 2, constantValue := 0 }, { name := "count", type := .int, accessFlags := 0, slot := 3, constantValue := 0 }, { name := "EMPTYVALUE", type := (.array .byte), accessFlags := 26, slot := 0, constantValue := 0 }]
  methods := #[k12m0, k12m1, k12m2, k12m3, k12m4, k12m5, k12m6, k12m7, k12m8, k12m9, k12m10, k12m11]
  instanceTypes := #[(.array .byte), .byte, .boolean, .int]
  staticTypes := #[(.array .byte)]
  resolved := Array.replicate 609 none
  statics := none }

def pool13 : Array CpInfo := pool [(1, .methodref 2 3), (0, .class_ 4), (0, .nameAndType 5 6), (0, u "java/lang/AbstractStringBuilder"), (0, u "<init>"), (0, u "(I)V"), (11, .class_ 20), (1, u "java/lang/String"), (3, .class_ 26), (1, u "java/lang/StringBuilder"), (0, u "append"), (0, u "(Ljava/lang/String;)Ljava/lang/StringBuilder;"), (0, .methodref 2 30), (0, .nameAndType 27 31), (0, u "(Ljava/lang/String;)Ljava/lang/AbstractStringBuilder;"), (21, .methodref 2 54), (0, .nameAndType 27 55), (0, u "(I)Ljava/lang/AbstractStringBuilder;"), (81, .methodref 18 138), (0, .nameAndType 5 139), (0, u "(Ljava/lang/StringBuilder;)V"), (5, u "()V"), (10, u "()I"), (111, u "(I)Ljava/lang/StringBuilder;"), (74, .methodref 2 344), (0, .nameAndType 345 156), (0, u "length"), (3, .class_ 350), (0, u "java/lang/Appendable"), (0, .class_ 352), (0, u "java/io/Serializable"), (0, .class_ 354), (0, u "java/lang/Comparable"), (0, .class_ 356), (0, u "java/lang/CharSequence"), (0, u "serialVersionUID"), (0, u "J"), (40, u "toString"), (0, u "()Ljava/lang/String;")] 21

def k13c0 : Code := { maxStack := 2, maxLocals := 1, code := jdk_67_method_1_code, exceptionTable := #[], attributes := #[] }
def k13m0 : Method := { name := "<init>", desc := "()V", sig := { parameters := [], returnType := none }, accessFlags := 1, code := some k13c0 }
def k13c1 : Code := { maxStack := 2, maxLocals := 2, code := jdk_67_method_7_code, exceptionTable := #[], attributes := #[] }
def k13m1 : Method := { name := "append", desc := "(Ljava/lang/String;)Ljava/lang/StringBuilder;", sig := { parameters := [(.object "java/lang/String")], returnType := some (.object "java/lang/StringBuilder") }, accessFlags := 1, code := some k13c1 }
def k13c2 : Code := { maxStack := 2, maxLocals := 2, code := jdk_67_method_15_code, exceptionTable := #[], attributes := #[] }
def k13m2 : Method := { name := "append", desc := "(I)Ljava/lang/StringBuilder;", sig := { parameters := [.int], returnType := some (.object "java/lang/StringBuilder") }, accessFlags := 1, code := some k13c2 }
def k13c3 : Code := { maxStack := 3, maxLocals := 1, code := jdk_67_method_42_code, exceptionTable := #[], attributes := #[] }
def k13m3 : Method := { name := "toString", desc := "()Ljava/lang/String;", sig := { parameters := [], returnType := some (.object "java/lang/String") }, accessFlags := 1, code := some k13c3 }
def k13c4 : Code := { maxStack := 1, maxLocals := 1, code := jdk_67_method_93_code, exceptionTable := #[], attributes := #[] }
def k13m4 : Method := { name := "length", desc := "()I", sig := { parameters := [], returnType := some .int }, accessFlags := 4161, code := some k13c4 }
/-- java/lang/StringBuilder -/
def k13 : Class := { plain "java/lang/StringBuilder" (some 12) with
  accessFlags := 49
  interfaces := #[11, 2, 3, 4]
  cf := some (fileOf pool13 24 #[] #[{ accessFlags := 1, nameIndex := 5, descriptorIndex := 145, attributes := #[] }, { accessFlags := 1, nameIndex := 27, descriptorIndex := 28, attributes := #[] }, { accessFlags := 1, nameIndex := 27, descriptorIndex := 268, attributes := #[] }, { accessFlags := 1, nameIndex := 399, descriptorIndex := 400, attributes := #[] }, { accessFlags := 4161, nameIndex := 345, descriptorIndex := 156, attributes := #[] }] 49 2 #[349, 351, 353, 355] #[{ accessFlags := 24, nameIndex := 357, descriptorIndex := 358, attributes := #[] }])
  fields := #[{ name := "serialVersionUID", type := .long, accessFlags := 24, slot := 0, constantValue := 0 }]
  methods := #[k13m0, k13m1, k13m2, k13m3, k13m4]
  instanceTypes := #[(.array .byte), .byte, .boolean, .int]
  staticTypes := #[.long]
  resolved := Array.replicate 422 none
  statics := none }

def pool14 : Array CpInfo := pool [(2, .class_ 4), (1, u "java/lang/Object"), (0, u "<init>"), (0, u "()V"), (1, .class_ 10), (1, u "java/lang/System"), (0, u "allowSecurityManager"), (0, u "I"), (16, u "cons"), (0, u "Ljava/io/Console;"), (77, .class_ 110), (1, u "java/lang/System$CallersHolder"), (43, u "initialErrStream"), (0, u "Ljava/io/PrintStream;"), (19, u "security"), (0, u "Ljava/lang/SecurityManager;"), (31, .class_ 209), (0, u "java/lang/System$1"), (7, u "props"), (0, u "Ljava/util/Properties;"), (2, u "lineSeparator"), (0, u "Ljava/lang/String;"), (96, .class_ 321), (1, u "java/lang/System$LoggerFinder"), (5, .class_ 328), (0, u "java/lang/System$Logger"), (67, u "err"), (2, u "out"), (91, u "notSupportedJnuEncoding"), (15, u "in"), (17, u "initialIn"), (0, u "Ljava/io/InputStream;"), (35, u "bootLayer"), (0, u "Ljava/lang/ModuleLayer;"), (99, .class_ 664), (0, u "java/lang/System$2"), (9, u "NEVER"), (2, u "MAYBE"), (49, u "arraycopy"), (0, u "(Ljava/lang/Object;ILjava/lang/Object;II)V"), (72, .class_ 802), (0, u "java/lang/System$Logger$Level")] 31

def k14m0 : Method := { name := "<init>", desc := "()V", sig := { parameters := [], returnType := none }, accessFlags := 2, code := none }
def k14m1 : Method := { name := "arraycopy", desc := "(Ljava/lang/Object;ILjava/lang/Object;II)V", sig := { parameters := [(.object "java/lang/Object"), .int, (.object "java/lang/Object"), .int, .int], returnType := none }, accessFlags := 265, code := none }
/-- java/lang/System -/
def k14 : Class := { plain "java/lang/System" (some 0) with
  accessFlags := 49
  interfaces := #[]
  cf := some (fileOf pool14 8 #[.nestMembers #[319, 327, 801, 108, 663, 208]] #[{ accessFlags := 2, nameIndex := 5, descriptorIndex := 6, attributes := #[] }, { accessFlags := 265, nameIndex := 727, descriptorIndex := 728, attributes := #[] }] 49 2 #[] #[{ accessFlags := 25, nameIndex := 507, descriptorIndex := 526, attributes := #[] }, { accessFlags := 25, nameIndex := 399, descriptorIndex := 155, attributes := #[] }, { accessFlags := 25, nameIndex := 396, descriptorIndex := 155, attributes := #[] }, { accessFlags := 10, nameIndex := 525, descriptorIndex := 526, attributes := #[] }, { accessFlags := 26, nameIndex := 674, descriptorIndex := 12, attributes := #[] }, { accessFlags := 26, nameIndex := 677, descriptorIndex := 12, attributes := #[] }, { accessFlags := 10, nameIndex := 11, descriptorIndex := 12, attributes := #[] }, { accessFlags := 74, nameIndex := 175, descriptorIndex := 176, attributes := #[] }, { accessFlags := 10, nameIndex := 491, descriptorIndex := 222, attributes := #[] }, { accessFlags := 74, nameIndex := 29, descriptorIndex := 30, attributes := #[] }, { accessFlags := 74, nameIndex := 154, descriptorIndex := 155, attributes := #[] }, { accessFlags := 10, nameIndex := 217, descriptorIndex := 218, attributes := #[] }, { accessFlags := 10, nameIndex := 221, descriptorIndex := 222, attributes := #[] }, { accessFlags := 8, nameIndex := 562, descriptorIndex := 563, attributes := #[] }])
  fields := #[{ name := "in", type := (.object "java/io/InputStream"), accessFlags := 25, slot := 0, constantValue := 0 }, { name := "out", type := (.object "java/io/PrintStream"), accessFlags := 25, slot := 1, constantValue := 0 }, { name := "err", type := (.object "java/io/PrintStream"), accessFlags := 25, slot := 2, constantValue := 0 }, { name := "initialIn", type := (.object "java/io/InputStream"), accessFlags := 10, slot := 3, constantValue := 0 }, { name := "NEVER", type := .int, accessFlags := 26, slot := 4, constantValue := 0 }, { name := "MAYBE", type := .int, accessFlags := 26, slot := 5, constantValue := 0 }, { name := "allowSecurityManager", type := .int, accessFlags := 10, slot := 6, constantValue := 0 }, { name := "security", type := (.object "java/lang/SecurityManager"), accessFlags := 74, slot := 7, constantValue := 0 }, { name := "notSupportedJnuEncoding", type := (.object "java/lang/String"), accessFlags := 10, slot := 8, constantValue := 0 }, { name := "cons", type := (.object "java/io/Console"), accessFlags := 74, slot := 9, constantValue := 0 }, { name := "initialErrStream", type := (.object "java/io/PrintStream"), accessFlags := 74, slot := 10, constantValue := 0 }, { name := "props", type := (.object "java/util/Properties"), accessFlags := 10, slot := 11, constantValue := 0 }, { name := "lineSeparator", type := (.object "java/lang/String"), accessFlags := 10, slot := 12, constantValue := 0 }, { name := "bootLayer", type := (.object "java/lang/ModuleLayer"), accessFlags := 8, slot := 13, constantValue := 0 }]
  methods := #[k14m0, k14m1]
  instanceTypes := #[]
  staticTypes := #[(.object "java/io/InputStream"), (.object "java/io/PrintStream"), (.object "java/io/PrintStream"), (.object "java/io/InputStream"), .int, .int, .int, (.object "java/lang/SecurityManager"), (.object "java/lang/String"), (.object "java/io/Console"), (.object "java/io/PrintStream"), (.object "java/util/Properties"), (.object "java/lang/String"), (.object "java/lang/ModuleLayer")]
  resolved := Array.replicate 834 none
  statics := none }

def pool15 : Array CpInfo := pool [(2, .class_ 4), (1, u "java/lang/Object"), (0, u "<init>"), (0, u "()V"), (1, .class_ 10), (1, u "java/lang/Number"), (2, .class_ 14), (0, u "java/io/Serializable"), (0, u "serialVersionUID"), (0, u "J")] 20

def k15m0 : Method := { name := "<init>", desc := "()V", sig := { parameters := [], returnType := none }, accessFlags := 1, code := none }
/-- java/lang/Number -/
def k15 : Class := { plain "java/lang/Number" (some 0) with
  accessFlags := 1057
  interfaces := #[2]
  cf := some (fileOf pool15 8 #[] #[{ accessFlags := 1, nameIndex := 5, descriptorIndex := 6, attributes := #[] }] 1057 2 #[13] #[{ accessFlags := 26, nameIndex := 15, descriptorIndex := 16, attributes := #[] }])
  fields := #[{ name := "serialVersionUID", type := .long, accessFlags := 26, slot := 0, constantValue := 0 }]
  methods := #[k15m0]
  instanceTypes := #[]
  staticTypes := #[.long]
  resolved := Array.replicate 37 none
  statics := none }

def pool16 : Array CpInfo := pool [(1, .class_ 2), (0, u "java/lang/Integer"), (16, u "digits"), (0, u "[C"), (33, u "(I)I"), (19, u "stringSize"), (2, u "getChars"), (0, u "(II[B)I"), (4, .fieldref 1 84), (0, .nameAndType 85 86), (0, u "DigitOnes"), (0, u "[B"), (0, .fieldref 1 88), (0, .nameAndType 89 86), (0, u "DigitTens"), (99, .class_ 190), (0, u "java/lang/Integer$IntegerCache"), (3, u "I"), (8, .class_ 204), (0, u "java/lang/Number"), (2, u "value"), (94, u "TYPE"), (0, u "Ljava/lang/Class;"), (0, .class_ 305), (0, u "java/lang/Comparable"), (0, .class_ 307), (0, u "java/lang/constant/Constable"), (0, .class_ 309), (0, u "java/lang/constant/ConstantDesc"), (0, u "MIN_VALUE"), (1, u "MAX_VALUE"), (3, u "SIZE"), (1, u "BYTES"), (1, u "serialVersionUID"), (0, u "J")] 131

def k16c0 : Code := { maxStack := 4, maxLocals := 7, code := jdk_33_method_12_code, exceptionTable := #[], attributes := #[] }
def k16m0 : Method := { name := "getChars", desc := "(II[B)I", sig := { parameters := [.int, .int, (.array .byte)], returnType := some .int }, accessFlags := 8, code := some k16c0 }
def k16c1 : Code := { maxStack := 2, maxLocals := 4, code := jdk_33_method_13_code, exceptionTable := #[], attributes := #[] }
def k16m1 : Method := { name := "stringSize", desc := "(I)I", sig := { parameters := [.int], returnType := some .int }, accessFlags := 8, code := some k16c1 }
/-- java/lang/Integer -/
def k16 : Class := { plain "java/lang/Integer" (some 15) with
  accessFlags := 49
  interfaces := #[3, 5, 6]
  cf := some (fileOf pool16 1 #[.nestMembers #[189]] #[{ accessFlags := 8, nameIndex := 77, descriptorIndex := 78, attributes := #[] }, { accessFlags := 8, nameIndex := 74, descriptorIndex := 54, attributes := #[] }] 49 203 #[304, 306, 308] #[{ accessFlags := 25, nameIndex := 310, descriptorIndex := 194, attributes := #[] }, { accessFlags := 25, nameIndex := 312, descriptorIndex := 194, attributes := #[] }, { accessFlags := 25, nameIndex := 302, descriptorIndex := 303, attributes := #[] }, { accessFlags := 24, nameIndex := 19, descriptorIndex := 20, attributes := #[] }, { accessFlags := 24, nameIndex := 89, descriptorIndex := 86, attributes := #[] }, { accessFlags := 24, nameIndex := 85, descriptorIndex := 86, attributes := #[] }, { accessFlags := 18, nameIndex := 207, descriptorIndex := 194, attributes := #[] }, { accessFlags := 25, nameIndex := 316, descriptorIndex := 194, attributes := #[] }, { accessFlags := 25, nameIndex := 318, descriptorIndex := 194, attributes := #[] }, { accessFlags := 26, nameIndex := 320, descriptorIndex := 321, attributes := #[] }])
  fields := #[{ name := "MIN_VALUE", type := .int, accessFlags := 25, slot := 0, constantValue := 0 }, { name := "MAX_VALUE", type := .int, accessFlags := 25, slot := 1, constantValue := 0 }, { name := "TYPE", type := (.object "java/lang/Class"), accessFlags := 25, slot := 2, constantValue := 0 }, { name := "digits", type := (.array .char), accessFlags := 24, slot := 3, constantValue := 0 }, { name := "DigitTens", type := (.array .byte), accessFlags := 24, slot := 4, constantValue := 0 }, { name := "DigitOnes", type := (.array .byte), accessFlags := 24, slot := 5, constantValue := 0 }, { name := "value", type := .int, accessFlags := 18, slot := 0, constantValue := 0 }, { name := "SIZE", type := .int, accessFlags := 25, slot := 6, constantValue := 0 }, { name := "BYTES", type := .int, accessFlags := 25, slot := 7, constantValue := 0 }, { name := "serialVersionUID", type := .long, accessFlags := 26, slot := 8, constantValue := 0 }]
  methods := #[k16m0, k16m1]
  instanceTypes := #[.int]
  staticTypes := #[.int, .int, (.object "java/lang/Class"), (.array .char), (.array .byte), (.array .byte), .int, .int, .long]
  resolved := Array.replicate 453 none
  statics := some 1 }

def pool17 : Array CpInfo := pool [(2, .class_ 4), (1, u "java/lang/Object"), (0, u "<init>"), (0, u "()V"), (7, .class_ 16), (1, u "java/util/Arrays"), (57, .class_ 76), (1, u "java/util/Arrays$NaturalOrder"), (32, u "()Ljava/lang/Object;"), (3, .class_ 115), (1, u "java/util/Arrays$LegacyMergeSort"), (1, u "Z"), (10, .nameAndType 129 109), (0, u "clone"), (9, u "copyOfRange"), (10, .methodref 151 152), (0, .class_ 153), (0, .nameAndType 154 155), (0, u "java/lang/System"), (0, u "arraycopy"), (0, u "(Ljava/lang/Object;ILjava/lang/Object;II)V"), (146, u "copyOf"), (1, .methodref 305 306), (0, .class_ 307), (0, .nameAndType 308 309), (0, u "java/lang/Math"), (0, u "min"), (0, u "(II)I"), (0, .methodref 311 128), (0, .class_ 312), (0, u "[B"), (26, .methodref 14 340), (0, .nameAndType 341 342), (0, u "copyOfRangeByte"), (0, u "([BII)[B"), (0, .methodref 14 344), (0, .nameAndType 345 346), (0, u "checkLength"), (0, u "(II)V"), (28, .class_ 376), (0, u "java/util/Arrays$ArrayList"), (68, u "$assertionsDisabled"), (269, u "MIN_ARRAY_SORT_GRAN"), (0, u "I"), (2, u "INSERTIONSORT_THRESHOLD"), (149, u "([BI)[B"), (105, .class_ 976), (0, u "java/util/Arrays$ArrayItr")] 52

def k17m0 : Method := { name := "<init>", desc := "()V", sig := { parameters := [], returnType := none }, accessFlags := 2, code := none }
def k17c1 : Code := { maxStack := 6, maxLocals := 3, code := jdk_65_method_121_code, exceptionTable := #[], attributes := #[] }
def k17m1 : Method := { name := "copyOf", desc := "([BI)[B", sig := { parameters := [(.array .byte), .int], returnType := some (.array .byte) }, accessFlags := 9, code := some k17c1 }
def k17c2 : Code := { maxStack := 4, maxLocals := 2, code := jdk_65_method_131_code, exceptionTable := #[], attributes := #[] }
def k17m2 : Method := { name := "checkLength", desc := "(II)V", sig := { parameters := [.int, .int], returnType := none }, accessFlags := 10, code := some k17c2 }
def k17c3 : Code := { maxStack := 3, maxLocals := 3, code := jdk_65_method_132_code, exceptionTable := #[], attributes := #[] }
def k17m3 : Method := { name := "copyOfRange", desc := "([BII)[B", sig := { parameters := [(.array .byte), .int, .int], returnType := some (.array .byte) }, accessFlags := 9, code := some k17c3 }
def k17c4 : Code := { maxStack := 6, maxLocals := 5, code := jdk_65_method_133_code, exceptionTable := #[], attributes := #[] }
def k17m4 : Method := { name := "copyOfRangeByte", desc := "([BII)[B", sig := { parameters := [(.array .byte), .int, .int], returnType := some (.array .byte) }, accessFlags := 10, code := some k17c4 }
/-- java/util/Arrays -/
def k17 : Class := { plain "java/util/Arrays" (some 0) with
  accessFlags := 49
  interfaces := #[]
  cf := some (fileOf pool17 14 #[.nestMembers #[975, 375, 113, 74]] #[{ accessFlags := 2, nameIndex := 5, descriptorIndex := 6, attributes := #[] }, { accessFlags := 9, nameIndex := 302, descriptorIndex := 869, attributes := #[] }, { accessFlags := 10, nameIndex := 345, descriptorIndex := 346, attributes := #[] }, { accessFlags := 9, nameIndex := 139, descriptorIndex := 342, attributes := #[] }, { accessFlags := 10, nameIndex := 341, descriptorIndex := 342, attributes := #[] }] 49 2 #[] #[{ accessFlags := 26, nameIndex := 715, descriptorIndex := 716, attributes := #[] }, { accessFlags := 26, nameIndex := 719, descriptorIndex := 716, attributes := #[] }, { accessFlags := 4120, nameIndex := 445, descriptorIndex := 117, attributes := #[] }])
  fields := #[{ name := "MIN_ARRAY_SORT_GRAN", type := .int, accessFlags := 26, slot := 0, constantValue := 0 }, { name := "INSERTIONSORT_THRESHOLD", type := .int, accessFlags := 26, slot := 1, constantValue := 0 }, { name := "$assertionsDisabled", type := .boolean, accessFlags := 4120, slot := 2, constantValue := 0 }]
  methods := #[k17m0, k17m1, k17m2, k17m3, k17m4]
  instanceTypes := #[]
  staticTypes := #[.int, .int, .boolean]
  resolved := Array.replicate 1029 none
  statics := none }

def pool18 : Array CpInfo := pool [(1, .class_ 2), (0, u "java/lang/Math"), (1, .class_ 6), (1, u "java/lang/Object"), (0, u "<init>"), (0, u "()V"), (89, .class_ 100), (1, u "java/lang/Math$RandomNumberGeneratorHolder"), (71, u "negativeZeroFloatBits"), (0, u "J"), (2, u "negativeZeroDoubleBits"), (21, u "max"), (2, u "min"), (43, u "$assertionsDisabled"), (0, u "Z"), (88, u "(II)I"), (2, u "twoToTheDoubleScaleDown"), (0, u "D"), (4, u "twoToTheDoubleScaleUp"), (9, u "E"), (3, u "PI"), (2, u "TAU"), (2, u "DEGREES_TO_RADIANS"), (0, u "RADIANS_TO_DEGREES")] 94

def k18m0 : Method := { name := "<init>", desc := "()V", sig := { parameters := [], returnType := none }, accessFlags := 2, code := none }
def k18c1 : Code := { maxStack := 2, maxLocals := 2, code := jdk_29_method_65_code, exceptionTable := #[], attributes := #[] }
def k18m1 : Method := { name := "max", desc := "(II)I", sig := { parameters := [.int, .int], returnType := some .int }, accessFlags := 9, code := some k18c1 }
def k18c2 : Code := { maxStack := 2, maxLocals := 2, code := jdk_29_method_69_code, exceptionTable := #[], attributes := #[] }
def k18m2 : Method := { name := "min", desc := "(II)I", sig := { parameters := [.int, .int], returnType := some .int }, accessFlags := 9, code := some k18c2 }
/-- java/lang/Math -/
def k18 : Class := { plain "java/lang/Math" (some 0) with
  accessFlags := 49
  interfaces := #[]
  cf := some (fileOf pool18 1 #[.nestMembers #[98]] #[{ accessFlags := 2, nameIndex := 7, descriptorIndex := 8, attributes := #[] }, { accessFlags := 9, nameIndex := 198, descriptorIndex := 335, attributes := #[] }, { accessFlags := 9, nameIndex := 201, descriptorIndex := 335, attributes := #[] }] 49 4 #[] #[{ accessFlags := 25, nameIndex := 354, descriptorIndex := 339, attributes := #[] }, { accessFlags := 25, nameIndex := 358, descriptorIndex := 339, attributes := #[] }, { accessFlags := 25, nameIndex := 361, descriptorIndex := 339, attributes := #[] }, { accessFlags := 26, nameIndex := 364, descriptorIndex := 339, attributes := #[] }, { accessFlags := 26, nameIndex := 365, descriptorIndex := 339, attributes := #[] }, { accessFlags := 26, nameIndex := 172, descriptorIndex := 173, attributes := #[] }, { accessFlags := 26, nameIndex := 176, descriptorIndex := 173, attributes := #[] }, { accessFlags := 8, nameIndex := 344, descriptorIndex := 339, attributes := #[] }, { accessFlags := 8, nameIndex := 338, descriptorIndex := 339, attributes := #[] }, { accessFlags := 4120, nameIndex := 245, descriptorIndex := 246, attributes := #[] }])
  fields := #[{ name := "E", type := .double, accessFlags := 25, slot := 0, constantValue := 0 }, { name := "PI", type := .double, accessFlags := 25, slot := 1, constantValue := 0 }, { name := "TAU", type := .double, accessFlags := 25, slot := 2, constantValue := 0 }, { name := "DEGREES_TO_RADIANS", type := .double, accessFlags := 26, slot := 3, constantValue := 0 }, { name := "RADIANS_TO_DEGREES", type := .double, accessFlags := 26, slot := 4, constantValue := 0 }, { name := "negativeZeroFloatBits", type := .long, accessFlags := 26, slot := 5, constantValue := 0 }, { name := "negativeZeroDoubleBits", type := .long, accessFlags := 26, slot := 6, constantValue := 0 }, { name := "twoToTheDoubleScaleUp", type := .double, accessFlags := 8, slot := 7, constantValue := 0 }, { name := "twoToTheDoubleScaleDown", type := .double, accessFlags := 8, slot := 8, constantValue := 0 }, { name := "$assertionsDisabled", type := .boolean, accessFlags := 4120, slot := 9, constantValue := 0 }]
  methods := #[k18m0, k18m1, k18m2]
  instanceTypes := #[]
  staticTypes := #[.double, .double, .double, .double, .double, .long, .long, .double, .double, .boolean]
  resolved := Array.replicate 460 none
  statics := none }

def pool19 : Array CpInfo := pool [(2, .class_ 4), (1, u "java/lang/Object"), (0, u "<init>"), (0, u "()V"), (17, .class_ 26), (1, u "jdk/internal/util/Preconditions"), (6, u "checkIndex"), (21, .class_ 56), (0, u "jdk/internal/util/Preconditions$4"), (57, .class_ 115), (0, u "jdk/internal/util/Preconditions$1"), (7, u "SIOOBE_FORMATTER"), (0, u "Ljava/util/function/BiFunction;"), (0, .class_ 126), (0, u "jdk/internal/util/Preconditions$2"), (3, u "AIOOBE_FORMATTER"), (0, .class_ 132), (0, u "jdk/internal/util/Preconditions$3"), (3, u "IOOBE_FORMATTER"), (41, u "(IILjava/util/function/BiFunction;)I")] 15

def k19m0 : Method := { name := "<init>", desc := "()V", sig := { parameters := [], returnType := none }, accessFlags := 1, code := none }
def k19c1 : Code := { maxStack := 3, maxLocals := 3, code := jdk_41_method_11_code, exceptionTable := #[], attributes := #[] }
def k19m1 : Method := { name := "checkIndex", desc := "(IILjava/util/function/BiFunction;)I", sig := { parameters := [.int, .int, (.object "java/util/function/BiFunction")], returnType := some .int }, accessFlags := 9, code := some k19c1 }
/-- jdk/internal/util/Preconditions -/
def k19 : Class := { plain "jdk/internal/util/Preconditions" (some 0) with
  accessFlags := 33
  interfaces := #[]
  cf := some (fileOf pool19 24 #[.nestMembers #[55, 131, 125, 114]] #[{ accessFlags := 1, nameIndex := 5, descriptorIndex := 6, attributes := #[] }, { accessFlags := 9, nameIndex := 33, descriptorIndex := 178, attributes := #[] }] 33 2 #[] #[{ accessFlags := 25, nameIndex := 123, descriptorIndex := 124, attributes := #[] }, { accessFlags := 25, nameIndex := 130, descriptorIndex := 124, attributes := #[] }, { accessFlags := 25, nameIndex := 136, descriptorIndex := 124, attributes := #[] }])
  fields := #[{ name := "SIOOBE_FORMATTER", type := (.object "java/util/function/BiFunction"), accessFlags := 25, slot := 0, constantValue := 0 }, { name := "AIOOBE_FORMATTER", type := (.object "java/util/function/BiFunction"), accessFlags := 25, slot := 1, constantValue := 0 }, { name := "IOOBE_FORMATTER", type := (.object "java/util/function/BiFunction"), accessFlags := 25, slot := 2, constantValue := 0 }]
  methods := #[k19m0, k19m1]
  instanceTypes := #[]
  staticTypes := #[(.object "java/util/function/BiFunction"), (.object "java/util/function/BiFunction"), (.object "java/util/function/BiFunction")]
  resolved := Array.replicate 194 none
  statics := some 2 }

def pool20 : Array CpInfo := pool [(6, .class_ 8), (1, u "java/lang/Object"), (0, u "<init>"), (0, u "()V"), (1, .class_ 14), (1, u "java/lang/StringUTF16"), (31, u "$assertionsDisabled"), (0, u "Z"), (13, u "HI_BYTE_SHIFT"), (0, u "I"), (2, u "LO_BYTE_SHIFT"), (49, .methodref 12 116), (0, .nameAndType 117 118), (0, u "compress"), (0, u "([CI[BII)I"), (3, u "([CII)[B"), (138, u "coderFromArrayLen"), (0, u "([BI)B"), (106, .class_ 371), (1, u "java/lang/StringUTF16$LinesSpliterator"), (58, u "MAX_LENGTH"), (196, .class_ 628), (0, u "java/lang/StringUTF16$CodePointsSpliterator"), (0, .class_ 630), (0, u "java/lang/StringUTF16$CharsSpliterator")] 4

def k20m0 : Method := { name := "<init>", desc := "()V", sig := { parameters := [], returnType := none }, accessFlags := 0, code := none }
def k20c1 : Code := { maxStack := 2, maxLocals := 2, code := jdk_52_method_15_code, exceptionTable := #[], attributes := #[] }
def k20m1 : Method := { name := "coderFromArrayLen", desc := "([BI)B", sig := { parameters := [(.array .byte), .int], returnType := some .byte }, accessFlags := 8, code := some k20c1 }
def k20c2 : Code := { maxStack := 5, maxLocals := 6, code := jdk_52_method_16_code, exceptionTable := #[], attributes := #[] }
def k20m2 : Method := { name := "compress", desc := "([CII)[B", sig := { parameters := [(.array .char), .int, .int], returnType := some (.array .byte) }, accessFlags := 9, code := some k20c2 }
def k20c3 : Code := { maxStack := 3, maxLocals := 7, code := jdk_52_method_21_code, exceptionTable := #[], attributes := #[] }
def k20m3 : Method := { name := "compress", desc := "([CI[BII)I", sig := { parameters := [(.array .char), .int, (.array .byte), .int, .int], returnType := some .int }, accessFlags := 9, code := some k20c3 }
/-- java/lang/StringUTF16 -/
def k20 : Class := { plain "java/lang/StringUTF16" (some 0) with
  accessFlags := 48
  interfaces := #[]
  cf := some (fileOf pool20 12 #[.nestMembers #[627, 629, 369]] #[{ accessFlags := 0, nameIndex := 9, descriptorIndex := 10, attributes := #[] }, { accessFlags := 8, nameIndex := 261, descriptorIndex := 262, attributes := #[] }, { accessFlags := 9, nameIndex := 117, descriptorIndex := 122, attributes := #[] }, { accessFlags := 9, nameIndex := 117, descriptorIndex := 118, attributes := #[] }] 48 6 #[] #[{ accessFlags := 26, nameIndex := 61, descriptorIndex := 62, attributes := #[] }, { accessFlags := 26, nameIndex := 65, descriptorIndex := 62, attributes := #[] }, { accessFlags := 24, nameIndex := 430, descriptorIndex := 62, attributes := #[] }, { accessFlags := 4120, nameIndex := 46, descriptorIndex := 47, attributes := #[] }])
  fields := #[{ name := "HI_BYTE_SHIFT", type := .int, accessFlags := 26, slot := 0, constantValue := 0 }, { name := "LO_BYTE_SHIFT", type := .int, accessFlags := 26, slot := 1, constantValue := 0 }, { name := "MAX_LENGTH", type := .int, accessFlags := 24, slot := 2, constantValue := 0 }, { name := "$assertionsDisabled", type := .boolean, accessFlags := 4120, slot := 3, constantValue := 0 }]
  methods := #[k20m0, k20m1, k20m2, k20m3]
  instanceTypes := #[]
  staticTypes := #[.int, .int, .int, .boolean]
  resolved := Array.replicate 635 none
  statics := none }

def pool21 : Array CpInfo := pool [(9, u "<init>"), (6, .class_ 18), (1, u "java/lang/Object"), (0, u "()V"), (1, .class_ 23), (1, u "jdk/internal/util/ArraysSupport"), (0, u "LOG2_ARRAY_LONG_INDEX_SCALE"), (0, u "I"), (2, u "U"), (0, u "Ljdk/internal/misc/Unsafe;"), (8, u "BIG_ENDIAN"), (0, u "Z"), (8, u "LOG2_BYTE_BIT_SIZE"), (4, u "LOG2_ARRAY_INT_INDEX_SCALE"), (54, u "JLA"), (0, u "Ljdk/internal/access/JavaLangAccess;"), (11, u "LOG2_ARRAY_BOOLEAN_INDEX_SCALE"), (9, u "LOG2_ARRAY_BYTE_INDEX_SCALE"), (5, u "LOG2_ARRAY_CHAR_INDEX_SCALE"), (5, u "LOG2_ARRAY_SHORT_INDEX_SCALE"), (18, u "LOG2_ARRAY_FLOAT_INDEX_SCALE"), (24, u "LOG2_ARRAY_DOUBLE_INDEX_SCALE"), (6, .methodref 195 196), (0, .class_ 197), (0, .nameAndType 198 199), (0, u "java/lang/Math"), (0, u "max"), (0, u "(II)I"), (0, .integer 2147483639), (76, u "T_BOOLEAN"), (2, u "T_CHAR"), (1, u "T_FLOAT"), (1, u "T_DOUBLE"), (1, u "T_BYTE"), (1, u "T_SHORT"), (1, u "T_INT"), (1, u "T_LONG"), (1, u "SOFT_MAX_ARRAY_LENGTH"), (56, u "newLength"), (0, u "(III)I")] 25

def k21m0 : Method := { name := "<init>", desc := "()V", sig := { parameters := [], returnType := none }, accessFlags := 2, code := none }
def k21c1 : Code := { maxStack := 3, maxLocals := 4, code := jdk_48_method_27_code, exceptionTable := #[], attributes := #[] }
def k21m1 : Method := { name := "newLength", desc := "(III)I", sig := { parameters := [.int, .int, .int], returnType := some .int }, accessFlags := 9, code := some k21c1 }
/-- jdk/internal/util/ArraysSupport -/
def k21 : Class := { plain "jdk/internal/util/ArraysSupport" (some 0) with
  accessFlags := 33
  interfaces := #[]
  cf := some (fileOf pool21 21 #[] #[{ accessFlags := 2, nameIndex := 9, descriptorIndex := 19, attributes := #[] }, { accessFlags := 9, nameIndex := 351, descriptorIndex := 352, attributes := #[] }] 33 16 #[] #[{ accessFlags := 24, nameIndex := 28, descriptorIndex := 29, attributes := #[] }, { accessFlags := 26, nameIndex := 38, descriptorIndex := 39, attributes := #[] }, { accessFlags := 25, nameIndex := 121, descriptorIndex := 25, attributes := #[] }, { accessFlags := 25, nameIndex := 131, descriptorIndex := 25, attributes := #[] }, { accessFlags := 25, nameIndex := 137, descriptorIndex := 25, attributes := #[] }, { accessFlags := 25, nameIndex := 143, descriptorIndex := 25, attributes := #[] }, { accessFlags := 25, nameIndex := 53, descriptorIndex := 25, attributes := #[] }, { accessFlags := 25, nameIndex := 24, descriptorIndex := 25, attributes := #[] }, { accessFlags := 25, nameIndex := 162, descriptorIndex := 25, attributes := #[] }, { accessFlags := 25, nameIndex := 187, descriptorIndex := 25, attributes := #[] }, { accessFlags := 26, nameIndex := 48, descriptorIndex := 25, attributes := #[] }, { accessFlags := 25, nameIndex := 277, descriptorIndex := 25, attributes := #[] }, { accessFlags := 25, nameIndex := 280, descriptorIndex := 25, attributes := #[] }, { accessFlags := 25, nameIndex := 282, descriptorIndex := 25, attributes := #[] }, { accessFlags := 25, nameIndex := 284, descriptorIndex := 25, attributes := #[] }, { accessFlags := 25, nameIndex := 286, descriptorIndex := 25, attributes := #[] }, { accessFlags := 25, nameIndex := 288, descriptorIndex := 25, attributes := #[] }, { accessFlags := 25, nameIndex := 290, descriptorIndex := 25, attributes := #[] }, { accessFlags := 25, nameIndex := 292, descriptorIndex := 25, attributes := #[] }, { accessFlags := 26, nameIndex := 108, descriptorIndex := 109, attributes := #[] }, { accessFlags := 25, nameIndex := 294, descriptorIndex := 25, attributes := #[] }])
  fields := #[{ name := "U", type := (.object "jdk/internal/misc/Unsafe"), accessFlags := 24, slot := 0, constantValue := 0 }, { name := "BIG_ENDIAN", type := .boolean, accessFlags := 26, slot := 1, constantValue := 0 }, { name := "LOG2_ARRAY_BOOLEAN_INDEX_SCALE", type := .int, accessFlags := 25, slot := 2, constantValue := 0 }, { name := "LOG2_ARRAY_BYTE_INDEX_SCALE", type := .int, accessFlags := 25, slot := 3, constantValue := 0 }, { name := "LOG2_ARRAY_CHAR_INDEX_SCALE", type := .int, accessFlags := 25, slot := 4, constantValue := 0 }, { name := "LOG2_ARRAY_SHORT_INDEX_SCALE", type := .int, accessFlags := 25, slot := 5, constantValue := 0 }, { name := "LOG2_ARRAY_INT_INDEX_SCALE", type := .int, accessFlags := 25, slot := 6, constantValue := 0 }, { name := "LOG2_ARRAY_LONG_INDEX_SCALE", type := .int, accessFlags := 25, slot := 7, constantValue := 0 }, { name := "LOG2_ARRAY_FLOAT_INDEX_SCALE", type := .int, accessFlags := 25, slot := 8, constantValue := 0 }, { name := "LOG2_ARRAY_DOUBLE_INDEX_SCALE", type := .int, accessFlags := 25, slot := 9, constantValue := 0 }, { name := "LOG2_BYTE_BIT_SIZE", type := .int, accessFlags := 26, slot := 10, constantValue := 0 }, { name := "T_BOOLEAN", type := .int, accessFlags := 25, slot := 11, constantValue := 0 }, { name := "T_CHAR", type := .int, accessFlags := 25, slot := 12, constantValue := 0 }, { name := "T_FLOAT", type := .int, accessFlags := 25, slot := 13, constantValue := 0 }, { name := "T_DOUBLE", type := .int, accessFlags := 25, slot := 14, constantValue := 0 }, { name := "T_BYTE", type := .int, accessFlags := 25, slot := 15, constantValue := 0 }, { name := "T_SHORT", type := .int, accessFlags := 25, slot := 16, constantValue := 0 }, { name := "T_INT", type := .int, accessFlags := 25, slot := 17, constantValue := 0 }, { name := "T_LONG", type := .int, accessFlags := 25, slot := 18, constantValue := 0 }, { name := "JLA", type := (.object "jdk/internal/access/JavaLangAccess"), accessFlags := 26, slot := 19, constantValue := 0 }, { name := "SOFT_MAX_ARRAY_LENGTH", type := .int, accessFlags := 25, slot := 20, constantValue := 0 }]
  methods := #[k21m0, k21m1]
  instanceTypes := #[]
  staticTypes := #[(.object "jdk/internal/misc/Unsafe"), .boolean, .int, .int, .int, .int, .int, .int, .int, .int, .int, .int, .int, .int, .int, .int, .int, .int, .int, (.object "jdk/internal/access/JavaLangAccess"), .int]
  resolved := Array.replicate 378 none
  statics := none }

def pool22 : Array CpInfo := pool [(1, .class_ 2), (0, u "java/lang/Cloneable"), (0, .class_ 4), (0, u "java/lang/Object")] 2

/-- java/lang/Cloneable -/
def k22 : Class := { plain "java/lang/Cloneable" (some 0) with
  accessFlags := 1537
  interfaces := #[]
  cf := some (fileOf pool22 1 #[] #[] 1537 3 #[] #[])
  fields := #[]
  methods := #[]
  instanceTypes := #[]
  staticTypes := #[]
  resolved := Array.replicate 7 none
  statics := none }

/-- the primitive byte -/
def k23 : Class := { plain "byte" none with kind := .primitive 'B', accessFlags := 0x411 }
/-- [B -/
def k24 : Class := { plain "[B" (some 0) with kind := .array 23 .byte, interfaces := #[22, 2], accessFlags := 1041 }

/-- the primitive char -/
def k25 : Class := { plain "char" none with kind := .primitive 'C', accessFlags := 0x411 }
/-- [C -/
def k26 : Class := { plain "[C" (some 0) with kind := .array 25 .char, interfaces := #[22, 2], accessFlags := 1041 }

/-- the primitive int -/
def k27 : Class := { plain "int" none with kind := .primitive 'I', accessFlags := 0x411 }
/-- [I -/
def k28 : Class := { plain "[I" (some 0) with kind := .array 27 .int, interfaces := #[22, 2], accessFlags := 1041 }

/-- the primitive long -/
def k29 : Class := { plain "long" none with kind := .primitive 'J', accessFlags := 0x411 }
/-- [J -/
def k30 : Class := { plain "[J" (some 0) with kind := .array 29 .long, interfaces := #[22, 2], accessFlags := 1041 }

def heap : Heap := #[{ cls := 7, slots := #[.long 0, .int 1, .null, .int 0, .null, .int 0, .int 0], vm := .statics 7 },
  { cls := 16, slots := #[.int 0, .int 0, .null, .null, .ref 4, .ref 3, .int 0, .int 0, .long 0], vm := .statics 16 },
  { cls := 19, slots := #[.null, .null, .null], vm := .statics 19 },
  { cls := 24, slots := #[.int 48, .int 49, .int 50, .int 51, .int 52, .int 53, .int 54, .int 55, .int 56, .int 57, .int 48, .int 49, .int 50, .int 51, .int 52, .int 53, .int 54, .int 55, .int 56, .int 57, .int 48, .int 49, .int 50, .int 51, .int 52, .int 53, .int 54, .int 55, .int 56, .int 57, .int 48, .int 49, .int 50, .int 51, .int 52, .int 53, .int 54, .int 55, .int 56, .int 57, .int 48, .int 49, .int 50, .int 51, .int 52, .int 53, .int 54, .int 55, .int 56, .int 57, .int 48, .int 49, .int 50, .int 51, .int 52, .int 53, .int 54, .int 55, .int 56, .int 57, .int 48, .int 49, .int 50, .int 51, .int 52, .int 53, .int 54, .int 55, .int 56, .int 57, .int 48, .int 49, .int 50, .int 51, .int 52, .int 53, .int 54, .int 55, .int 56, .int 57, .int 48, .int 49, .int 50, .int 51, .int 52, .int 53, .int 54, .int 55, .int 56, .int 57, .int 48, .int 49, .int 50, .int 51, .int 52, .int 53, .int 54, .int 55, .int 56, .int 57], vm := .none },
  { cls := 24, slots := #[.int 48, .int 48, .int 48, .int 48, .int 48, .int 48, .int 48, .int 48, .int 48, .int 48, .int 49, .int 49, .int 49, .int 49, .int 49, .int 49, .int 49, .int 49, .int 49, .int 49, .int 50, .int 50, .int 50, .int 50, .int 50, .int 50, .int 50, .int 50, .int 50, .int 50, .int 51, .int 51, .int 51, .int 51, .int 51, .int 51, .int 51, .int 51, .int 51, .int 51, .int 52, .int 52, .int 52, .int 52, .int 52, .int 52, .int 52, .int 52, .int 52, .int 52, .int 53, .int 53, .int 53, .int 53, .int 53, .int 53, .int 53, .int 53, .int 53, .int 53, .int 54, .int 54, .int 54, .int 54, .int 54, .int 54, .int 54, .int 54, .int 54, .int 54, .int 55, .int 55, .int 55, .int 55, .int 55, .int 55, .int 55, .int 55, .int 55, .int 55, .int 56, .int 56, .int 56, .int 56, .int 56, .int 56, .int 56, .int 56, .int 56, .int 56, .int 57, .int 57, .int 57, .int 57, .int 57, .int 57, .int 57, .int 57, .int 57, .int 57], vm := .none }]
def classes : Array Class := #[k0, k1, k2, k3, k4, k5, k6, k7, k8, k9, k10, k11, k12, k13, k14, k15, k16, k17, k18, k19, k20, k21, k22, k23, k24, k25, k26, k27, k28, k29, k30]
def interned : List (Array UInt16 × Addr) := []
def slotsUsed : Nat := 219
def theMethod : MethodId := ⟨1, 1⟩
def args0 : Array Value := #[.int 5, .int 97, .int 98, .int 99, .int (-120), .int 45]
def aboutOver (below : List Frame) : State where
  vm := { classes := classes, interned := interned.toArray }
  heap := heap
  slotsUsed := slotsUsed
  threads := #[{ frames := .invoking theMethod args0 :: below }]
def below0 : List Frame := [.native { method := ⟨0, 0⟩, args := #[] }]
def about1 : State := aboutOver below0
def p0 : Program := .bare "" "" ""
def e0 : Env := launch0.env 0 0 0
theorem w_frames : about1.frames = Frame.invoking theMethod args0 :: below0 := rfl
set_option maxRecDepth 65536 in
theorem w_args : argsFit about1.vm theMethod args0 = true := by decide +kernel
set_option maxRecDepth 65536 in
theorem w_heap : heapFits about1 = true := by decide +kernel
set_option maxRecDepth 65536 in
theorem w_runnable : about1.curStatus? = some .runnable := by decide +kernel
set_option maxRecDepth 65536 in
theorem w_alone : about1.alone = true := by decide +kernel
set_option maxRecDepth 65536 in
theorem w_named : about1.methodNamed? x = some theMethod := by decide +kernel
set_option maxRecDepth 65536 in
theorem w_hears : about1.hears theMethod below0 = true := by decide +kernel
set_option maxRecDepth 65536 in
theorem w_ripe : about1.ripe theMethod args0 below0 = true := by decide +kernel
theorem w_running : about1.status = .running := rfl
set_option maxRecDepth 65536 in
theorem w_room : about1.hasRoom e0.platform room_1 = true :=
  launch0.hasRoom_least _ room_1 (by decide +kernel) (by decide +kernel) (by decide +kernel) (by decide +kernel) (by decide +kernel) (by decide +kernel)
theorem allAtoms_all (ts : List Jvm.Cond) (a : Array Jvm.Value) (st : Jvm.State) : (allAtoms ts).before a st = ts.all (fun c => c.before a st) := by
  induction ts with
  | nil => rfl
  | cons c t ih =>
    show (Jvm.Cond.and c (allAtoms t)).before a st = _
    rw [Jvm.Cond.before_and, ih, List.all_cons]
def words1 : List Jvm.Cond := Jvm.Cond.code x code maxLocals ret :: tables_1
/-- a 'code' word, met by the world's own term for the bytes: nothing is compared byte by byte -/
theorem code_word {y : MethodName} {bytes : ByteArray} {mx : Nat} {rt : Option FieldType} {a : Array Value} {s : State} {m : MethodId} {meth : Method} {c : Code} (h1 : s.methodNamed? y = some m) (h2 : s.vm.method? m = some meth) (h3 : meth.code = some c) (h4 : c.code = bytes)
    (h5 : (c.maxLocals == mx && c.exceptionTable.isEmpty && decide (c.maxStack ≤ mostOperands) && decide (meth.sig.returnType = rt) && !meth.locks && decide (parseMethodDescriptor y.desc = some meth.sig)) = true) : (Jvm.Cond.code y bytes mx rt).before a s = true := by
  simp only [Bool.and_eq_true, beq_iff_eq, Bool.not_eq_true', decide_eq_true_eq] at h5
  obtain ⟨⟨⟨⟨⟨g1, g2⟩, g3⟩, g4⟩, g5⟩, g6⟩ := h5
  simp [Cond.before, Cond.holds, Cond.value, h1, h2, h3, h4, g1, g2, g3, g4, g5, g6]
def isCode : Jvm.Cond → Bool
  | .code _ _ _ _ => true
  | _ => false
theorem all_split {L : List Jvm.Cond} {P : Jvm.Cond → Bool} (h1 : L.all (fun c => isCode c || P c) = true) (h2 : ∀ c ∈ L.filter isCode, P c = true) : L.all P = true := by
  refine List.all_eq_true.mpr fun c hc => ?_
  have h := List.all_eq_true.mp h1 c hc
  rcases Bool.eq_false_or_eq_true (isCode c) with hi | hi
  · exact h2 c (List.mem_filter.mpr ⟨hc, hi⟩)
  · simpa [hi] using h
set_option maxRecDepth 65536 in
theorem w_c0 : (Jvm.Cond.code x code maxLocals ret).before args0 about1 = true := code_word (m := ⟨1, 1⟩) (meth := k1m1) (c := k1c1) (by decide +kernel) rfl rfl rfl (by decide +kernel)
set_option maxRecDepth 65536 in
theorem w_c1 : (Jvm.Cond.code ({ cls := "java/lang/String", name := "valueOf", desc := "(C)Ljava/lang/String;" } : Jvm.MethodName) jdk_42_method_139_code (1 : Nat) (Option.some (Jvm.ClassFile.FieldType.object "java/lang/String"))).before args0 about1 = true := code_word (m := ⟨7, 6⟩) (meth := k7m6) (c := k7c6) (by decide +kernel) rfl rfl rfl (by decide +kernel)
set_option maxRecDepth 65536 in
theorem w_c2 : (Jvm.Cond.code ({ cls := "java/lang/StringLatin1", name := "canEncode", desc := "(C)Z" } : Jvm.MethodName) jdk_43_method_3_code (1 : Nat) (Option.some Jvm.ClassFile.FieldType.boolean)).before args0 about1 = true := code_word (m := ⟨8, 2⟩) (meth := k8m2) (c := k8c2) (by decide +kernel) rfl rfl rfl (by decide +kernel)
set_option maxRecDepth 65536 in
theorem w_c3 : (Jvm.Cond.code ({ cls := "java/lang/StringLatin1", name := "toBytes", desc := "(C)[B" } : Jvm.MethodName) jdk_43_method_46_code (1 : Nat) (Option.some (Jvm.ClassFile.FieldType.array Jvm.ClassFile.FieldType.byte))).before args0 about1 = true := code_word (m := ⟨8, 3⟩) (meth := k8m3) (c := k8c3) (by decide +kernel) rfl rfl rfl (by decide +kernel)
set_option maxRecDepth 65536 in
theorem w_c4 : (Jvm.Cond.code ({ cls := "java/lang/String", name := "<init>", desc := "([BB)V" } : Jvm.MethodName) jdk_42_method_151_code (3 : Nat) (Option.none : Option Jvm.ClassFile.FieldType)).before args0 about1 = true := code_word (m := ⟨7, 10⟩) (meth := k7m10) (c := k7c10) (by decide +kernel) rfl rfl rfl (by decide +kernel)
set_option maxRecDepth 65536 in
theorem w_c5 : (Jvm.Cond.code ({ cls := "java/lang/Object", name := "<init>", desc := "()V" } : Jvm.MethodName) object_method_1_code (1 : Nat) (Option.none : Option Jvm.ClassFile.FieldType)).before args0 about1 = true := code_word (m := ⟨0, 0⟩) (meth := k0m0) (c := k0c0) (by decide +kernel) rfl rfl rfl (by decide +kernel)
set_option maxRecDepth 65536 in
theorem w_c6 : (Jvm.Cond.code ({ cls := "com/example/mortise/mortise/core/Problem", name := "<init>", desc := "(Ljava/lang/String;IILjava/lang/String;)V" } : Jvm.MethodName) prog_7_method_1_code (5 : Nat) (Option.none : Option Jvm.ClassFile.FieldType)).before args0 about1 = true := code_word (m := ⟨10, 0⟩) (meth := k10m0) (c := k10c0) (by decide +kernel) rfl rfl rfl (by decide +kernel)
set_option maxRecDepth 65536 in
theorem w_c7 : (Jvm.Cond.code ({ cls := "java/lang/Record", name := "<init>", desc := "()V" } : Jvm.MethodName) jdk_30_method_1_code (1 : Nat) (Option.none : Option Jvm.ClassFile.FieldType)).before args0 about1 = true := code_word (m := ⟨9, 0⟩) (meth := k9m0) (c := k9c0) (by decide +kernel) rfl rfl rfl (by decide +kernel)
set_option maxRecDepth 65536 in
theorem w_c8 : (Jvm.Cond.code ({ cls := "com/example/mortise/mortise/core/Problem", name := "location", desc := "()Ljava/lang/String;" } : Jvm.MethodName) prog_7_method_4_code (1 : Nat) (Option.some (Jvm.ClassFile.FieldType.object "java/lang/String"))).before args0 about1 = true := code_word (m := ⟨10, 1⟩) (meth := k10m1) (c := k10c1) (by decide +kernel) rfl rfl rfl (by decide +kernel)
set_option maxRecDepth 65536 in
theorem w_c9 : (Jvm.Cond.code ({ cls := "java/lang/String", name := "<init>", desc := "([C)V" } : Jvm.MethodName) jdk_42_method_3_code (2 : Nat) (Option.none : Option Jvm.ClassFile.FieldType)).before args0 about1 = true := code_word (m := ⟨7, 1⟩) (meth := k7m1) (c := k7c1) (by decide +kernel) rfl rfl rfl (by decide +kernel)
set_option maxRecDepth 65536 in
theorem w_c10 : (Jvm.Cond.code ({ cls := "java/lang/String", name := "<init>", desc := "([CIILjava/lang/Void;)V" } : Jvm.MethodName) jdk_42_method_149_code (6 : Nat) (Option.none : Option Jvm.ClassFile.FieldType)).before args0 about1 = true := code_word (m := ⟨7, 8⟩) (meth := k7m8) (c := k7c8) (by decide +kernel) rfl rfl rfl (by decide +kernel)
set_option maxRecDepth 65536 in
theorem w_c11 : (Jvm.Cond.code ({ cls := "java/lang/StringBuilder", name := "<init>", desc := "()V" } : Jvm.MethodName) jdk_67_method_1_code (1 : Nat) (Option.none : Option Jvm.ClassFile.FieldType)).before args0 about1 = true := code_word (m := ⟨13, 0⟩) (meth := k13m0) (c := k13c0) (by decide +kernel) rfl rfl rfl (by decide +kernel)
set_option maxRecDepth 65536 in
theorem w_c12 : (Jvm.Cond.code ({ cls := "java/lang/AbstractStringBuilder", name := "<init>", desc := "(I)V" } : Jvm.MethodName) jdk_68_method_2_code (2 : Nat) (Option.none : Option Jvm.ClassFile.FieldType)).before args0 about1 = true := code_word (m := ⟨12, 1⟩) (meth := k12m1) (c := k12c1) (by decide +kernel) rfl rfl rfl (by decide +kernel)
set_option maxRecDepth 65536 in
theorem w_c13 : (Jvm.Cond.code ({ cls := "java/lang/StringBuilder", name := "append", desc := "(Ljava/lang/String;)Ljava/lang/StringBuilder;" } : Jvm.MethodName) jdk_67_method_7_code (2 : Nat) (Option.some (Jvm.ClassFile.FieldType.object "java/lang/StringBuilder"))).before args0 about1 = true := code_word (m := ⟨13, 1⟩) (meth := k13m1) (c := k13c1) (by decide +kernel) rfl rfl rfl (by decide +kernel)
set_option maxRecDepth 65536 in
theorem w_c14 : (Jvm.Cond.code ({ cls := "java/lang/AbstractStringBuilder", name := "append", desc := "(Ljava/lang/String;)Ljava/lang/AbstractStringBuilder;" } : Jvm.MethodName) jdk_68_method_22_code (3 : Nat) (Option.some (Jvm.ClassFile.FieldType.object "java/lang/AbstractStringBuilder"))).before args0 about1 = true := code_word (m := ⟨12, 5⟩) (meth := k12m5) (c := k12c5) (by decide +kernel) rfl rfl rfl (by decide +kernel)
set_option maxRecDepth 65536 in
theorem w_c15 : (Jvm.Cond.code ({ cls := "java/lang/String", name := "length", desc := "()I" } : Jvm.MethodName) jdk_42_method_54_code (1 : Nat) (Option.some Jvm.ClassFile.FieldType.int)).before args0 about1 = true := code_word (m := ⟨7, 3⟩) (meth := k7m3) (c := k7c3) (by decide +kernel) rfl rfl rfl (by decide +kernel)
set_option maxRecDepth 65536 in
theorem w_c16 : (Jvm.Cond.code ({ cls := "java/lang/String", name := "coder", desc := "()B" } : Jvm.MethodName) jdk_42_method_152_code (1 : Nat) (Option.some Jvm.ClassFile.FieldType.byte)).before args0 about1 = true := code_word (m := ⟨7, 11⟩) (meth := k7m11) (c := k7c11) (by decide +kernel) rfl rfl rfl (by decide +kernel)
set_option maxRecDepth 65536 in
theorem w_c17 : (Jvm.Cond.code ({ cls := "java/lang/AbstractStringBuilder", name := "ensureCapacityInternal", desc := "(I)V" } : Jvm.MethodName) jdk_68_method_9_code (3 : Nat) (Option.none : Option Jvm.ClassFile.FieldType)).before args0 about1 = true := code_word (m := ⟨12, 3⟩) (meth := k12m3) (c := k12c3) (by decide +kernel) rfl rfl rfl (by decide +kernel)
set_option maxRecDepth 65536 in
theorem w_c18 : (Jvm.Cond.code ({ cls := "java/lang/AbstractStringBuilder", name := "putStringAt", desc := "(ILjava/lang/String;)V" } : Jvm.MethodName) jdk_68_method_73_code (3 : Nat) (Option.none : Option Jvm.ClassFile.FieldType)).before args0 about1 = true := code_word (m := ⟨12, 11⟩) (meth := k12m11) (c := k12c11) (by decide +kernel) rfl rfl rfl (by decide +kernel)
set_option maxRecDepth 65536 in
theorem w_c19 : (Jvm.Cond.code ({ cls := "java/lang/AbstractStringBuilder", name := "inflateIfNeededFor", desc := "(Ljava/lang/String;)V" } : Jvm.MethodName) jdk_68_method_71_code (2 : Nat) (Option.none : Option Jvm.ClassFile.FieldType)).before args0 about1 = true := code_word (m := ⟨12, 10⟩) (meth := k12m10) (c := k12c10) (by decide +kernel) rfl rfl rfl (by decide +kernel)
set_option maxRecDepth 65536 in
theorem w_c20 : (Jvm.Cond.code ({ cls := "java/lang/String", name := "getBytes", desc := "([BIB)V" } : Jvm.MethodName) jdk_42_method_147_code (4 : Nat) (Option.none : Option Jvm.ClassFile.FieldType)).before args0 about1 = true := code_word (m := ⟨7, 7⟩) (meth := k7m7) (c := k7c7) (by decide +kernel) rfl rfl rfl (by decide +kernel)
set_option maxRecDepth 65536 in
theorem w_c21 : (Jvm.Cond.code ({ cls := "java/lang/StringBuilder", name := "append", desc := "(I)Ljava/lang/StringBuilder;" } : Jvm.MethodName) jdk_67_method_15_code (2 : Nat) (Option.some (Jvm.ClassFile.FieldType.object "java/lang/StringBuilder"))).before args0 about1 = true := code_word (m := ⟨13, 2⟩) (meth := k13m2) (c := k13c2) (by decide +kernel) rfl rfl rfl (by decide +kernel)
set_option maxRecDepth 65536 in
theorem w_c22 : (Jvm.Cond.code ({ cls := "java/lang/AbstractStringBuilder", name := "append", desc := "(I)Ljava/lang/AbstractStringBuilder;" } : Jvm.MethodName) jdk_68_method_32_code (4 : Nat) (Option.some (Jvm.ClassFile.FieldType.object "java/lang/AbstractStringBuilder"))).before args0 about1 = true := code_word (m := ⟨12, 7⟩) (meth := k12m7) (c := k12c7) (by decide +kernel) rfl rfl rfl (by decide +kernel)
set_option maxRecDepth 65536 in
theorem w_c23 : (Jvm.Cond.code ({ cls := "java/lang/Integer", name := "stringSize", desc := "(I)I" } : Jvm.MethodName) jdk_33_method_13_code (4 : Nat) (Option.some Jvm.ClassFile.FieldType.int)).before args0 about1 = true := code_word (m := ⟨16, 1⟩) (meth := k16m1) (c := k16c1) (by decide +kernel) rfl rfl rfl (by decide +kernel)
set_option maxRecDepth 65536 in
theorem w_c24 : (Jvm.Cond.code ({ cls := "java/lang/AbstractStringBuilder", name := "isLatin1", desc := "()Z" } : Jvm.MethodName) jdk_68_method_68_code (1 : Nat) (Option.some Jvm.ClassFile.FieldType.boolean)).before args0 about1 = true := code_word (m := ⟨12, 9⟩) (meth := k12m9) (c := k12c9) (by decide +kernel) rfl rfl rfl (by decide +kernel)
set_option maxRecDepth 65536 in
theorem w_c25 : (Jvm.Cond.code ({ cls := "java/lang/Integer", name := "getChars", desc := "(II[B)I" } : Jvm.MethodName) jdk_33_method_12_code (7 : Nat) (Option.some Jvm.ClassFile.FieldType.int)).before args0 about1 = true := code_word (m := ⟨16, 0⟩) (meth := k16m0) (c := k16c0) (by decide +kernel) rfl rfl rfl (by decide +kernel)
set_option maxRecDepth 65536 in
theorem w_c26 : (Jvm.Cond.code ({ cls := "java/lang/StringBuilder", name := "toString", desc := "()Ljava/lang/String;" } : Jvm.MethodName) jdk_67_method_42_code (1 : Nat) (Option.some (Jvm.ClassFile.FieldType.object "java/lang/String"))).before args0 about1 = true := code_word (m := ⟨13, 3⟩) (meth := k13m3) (c := k13c3) (by decide +kernel) rfl rfl rfl (by decide +kernel)
set_option maxRecDepth 65536 in
theorem w_c27 : (Jvm.Cond.code ({ cls := "java/lang/String", name := "<init>", desc := "(Ljava/lang/StringBuilder;)V" } : Jvm.MethodName) jdk_42_method_53_code (2 : Nat) (Option.none : Option Jvm.ClassFile.FieldType)).before args0 about1 = true := code_word (m := ⟨7, 2⟩) (meth := k7m2) (c := k7c2) (by decide +kernel) rfl rfl rfl (by decide +kernel)
set_option maxRecDepth 65536 in
theorem w_c28 : (Jvm.Cond.code ({ cls := "java/lang/String", name := "<init>", desc := "(Ljava/lang/AbstractStringBuilder;Ljava/lang/Void;)V" } : Jvm.MethodName) jdk_42_method_150_code (5 : Nat) (Option.none : Option Jvm.ClassFile.FieldType)).before args0 about1 = true := code_word (m := ⟨7, 9⟩) (meth := k7m9) (c := k7c9) (by decide +kernel) rfl rfl rfl (by decide +kernel)
set_option maxRecDepth 65536 in
theorem w_c29 : (Jvm.Cond.code ({ cls := "java/lang/AbstractStringBuilder", name := "getValue", desc := "()[B" } : Jvm.MethodName) jdk_68_method_64_code (1 : Nat) (Option.some (Jvm.ClassFile.FieldType.array Jvm.ClassFile.FieldType.byte))).before args0 about1 = true := code_word (m := ⟨12, 8⟩) (meth := k12m8) (c := k12c8) (by decide +kernel) rfl rfl rfl (by decide +kernel)
set_option maxRecDepth 65536 in
theorem w_c30 : (Jvm.Cond.code ({ cls := "java/lang/StringBuilder", name := "length", desc := "()I" } : Jvm.MethodName) jdk_67_method_93_code (1 : Nat) (Option.some Jvm.ClassFile.FieldType.int)).before args0 about1 = true := code_word (m := ⟨13, 4⟩) (meth := k13m4) (c := k13c4) (by decide +kernel) rfl rfl rfl (by decide +kernel)
set_option maxRecDepth 65536 in
theorem w_c31 : (Jvm.Cond.code ({ cls := "java/lang/AbstractStringBuilder", name := "length", desc := "()I" } : Jvm.MethodName) jdk_68_method_6_code (1 : Nat) (Option.some Jvm.ClassFile.FieldType.int)).before args0 about1 = true := code_word (m := ⟨12, 2⟩) (meth := k12m2) (c := k12c2) (by decide +kernel) rfl rfl rfl (by decide +kernel)
set_option maxRecDepth 65536 in
theorem w_c32 : (Jvm.Cond.code ({ cls := "java/util/Arrays", name := "copyOfRange", desc := "([BII)[B" } : Jvm.MethodName) jdk_65_method_132_code (3 : Nat) (Option.some (Jvm.ClassFile.FieldType.array Jvm.ClassFile.FieldType.byte))).before args0 about1 = true := code_word (m := ⟨17, 3⟩) (meth := k17m3) (c := k17c3) (by decide +kernel) rfl rfl rfl (by decide +kernel)
set_option maxRecDepth 65536 in
theorem w_c33 : (Jvm.Cond.code ({ cls := "java/util/Arrays", name := "copyOfRangeByte", desc := "([BII)[B" } : Jvm.MethodName) jdk_65_method_133_code (5 : Nat) (Option.some (Jvm.ClassFile.FieldType.array Jvm.ClassFile.FieldType.byte))).before args0 about1 = true := code_word (m := ⟨17, 4⟩) (meth := k17m4) (c := k17c4) (by decide +kernel) rfl rfl rfl (by decide +kernel)
set_option maxRecDepth 65536 in
theorem w_c34 : (Jvm.Cond.code ({ cls := "java/util/Arrays", name := "checkLength", desc := "(II)V" } : Jvm.MethodName) jdk_65_method_131_code (2 : Nat) (Option.none : Option Jvm.ClassFile.FieldType)).before args0 about1 = true := code_word (m := ⟨17, 2⟩) (meth := k17m2) (c := k17c2) (by decide +kernel) rfl rfl rfl (by decide +kernel)
set_option maxRecDepth 65536 in
theorem w_c35 : (Jvm.Cond.code ({ cls := "java/lang/Math", name := "min", desc := "(II)I" } : Jvm.MethodName) jdk_29_method_69_code (2 : Nat) (Option.some Jvm.ClassFile.FieldType.int)).before args0 about1 = true := code_word (m := ⟨18, 2⟩) (meth := k18m2) (c := k18c2) (by decide +kernel) rfl rfl rfl (by decide +kernel)
set_option maxRecDepth 65536 in
theorem w_c36 : (Jvm.Cond.code ({ cls := "com/example/mortise/mortise/core/ProblemLocationPinLaw", name := "put", desc := "([CII)I" } : Jvm.MethodName) method_6_code (7 : Nat) (Option.some Jvm.ClassFile.FieldType.int)).before args0 about1 = true := code_word (m := ⟨1, 5⟩) (meth := k1m5) (c := k1c5) (by decide +kernel) rfl rfl rfl (by decide +kernel)
set_option maxRecDepth 65536 in
theorem w_c37 : (Jvm.Cond.code ({ cls := "com/example/mortise/mortise/core/ProblemLocationPinLaw", name := "digits", desc := "(J)I" } : Jvm.MethodName) method_4_code (3 : Nat) (Option.some Jvm.ClassFile.FieldType.int)).before args0 about1 = true := code_word (m := ⟨1, 3⟩) (meth := k1m3) (c := k1c3) (by decide +kernel) rfl rfl rfl (by decide +kernel)
set_option maxRecDepth 65536 in
theorem w_c38 : (Jvm.Cond.code ({ cls := "com/example/mortise/mortise/core/ProblemLocationPinLaw", name := "one", desc := "([CIJII)V" } : Jvm.MethodName) method_5_code (7 : Nat) (Option.none : Option Jvm.ClassFile.FieldType)).before args0 about1 = true := code_word (m := ⟨1, 4⟩) (meth := k1m4) (c := k1c4) (by decide +kernel) rfl rfl rfl (by decide +kernel)
set_option maxRecDepth 65536 in
theorem w_c39 : (Jvm.Cond.code ({ cls := "com/example/mortise/mortise/core/ProblemLocationPinLaw", name := "at", desc := "(Ljava/lang/String;[CII)Z" } : Jvm.MethodName) method_3_code (4 : Nat) (Option.some Jvm.ClassFile.FieldType.boolean)).before args0 about1 = true := code_word (m := ⟨1, 2⟩) (meth := k1m2) (c := k1c2) (by decide +kernel) rfl rfl rfl (by decide +kernel)
set_option maxRecDepth 65536 in
theorem w_c40 : (Jvm.Cond.code ({ cls := "java/lang/String", name := "charAt", desc := "(I)C" } : Jvm.MethodName) jdk_42_method_56_code (2 : Nat) (Option.some Jvm.ClassFile.FieldType.char)).before args0 about1 = true := code_word (m := ⟨7, 4⟩) (meth := k7m4) (c := k7c4) (by decide +kernel) rfl rfl rfl (by decide +kernel)
set_option maxRecDepth 65536 in
theorem w_c41 : (Jvm.Cond.code ({ cls := "java/lang/String", name := "isLatin1", desc := "()Z" } : Jvm.MethodName) jdk_42_method_154_code (1 : Nat) (Option.some Jvm.ClassFile.FieldType.boolean)).before args0 about1 = true := code_word (m := ⟨7, 12⟩) (meth := k7m12) (c := k7c12) (by decide +kernel) rfl rfl rfl (by decide +kernel)
set_option maxRecDepth 65536 in
theorem w_c42 : (Jvm.Cond.code ({ cls := "java/lang/StringLatin1", name := "charAt", desc := "([BI)C" } : Jvm.MethodName) jdk_43_method_2_code (2 : Nat) (Option.some Jvm.ClassFile.FieldType.char)).before args0 about1 = true := code_word (m := ⟨8, 1⟩) (meth := k8m1) (c := k8c1) (by decide +kernel) rfl rfl rfl (by decide +kernel)
set_option maxRecDepth 65536 in
theorem w_c43 : (Jvm.Cond.code ({ cls := "java/lang/String", name := "checkIndex", desc := "(II)V" } : Jvm.MethodName) jdk_42_method_155_code (2 : Nat) (Option.none : Option Jvm.ClassFile.FieldType)).before args0 about1 = true := code_word (m := ⟨7, 13⟩) (meth := k7m13) (c := k7c13) (by decide +kernel) rfl rfl rfl (by decide +kernel)
set_option maxRecDepth 65536 in
theorem w_c44 : (Jvm.Cond.code ({ cls := "jdk/internal/util/Preconditions", name := "checkIndex", desc := "(IILjava/util/function/BiFunction;)I" } : Jvm.MethodName) jdk_41_method_11_code (3 : Nat) (Option.some Jvm.ClassFile.FieldType.int)).before args0 about1 = true := code_word (m := ⟨19, 1⟩) (meth := k19m1) (c := k19c1) (by decide +kernel) rfl rfl rfl (by decide +kernel)
set_option maxRecDepth 65536 in
theorem w_c45 : (Jvm.Cond.code ({ cls := "java/lang/StringUTF16", name := "compress", desc := "([CII)[B" } : Jvm.MethodName) jdk_52_method_16_code (6 : Nat) (Option.some (Jvm.ClassFile.FieldType.array Jvm.ClassFile.FieldType.byte))).before args0 about1 = true := code_word (m := ⟨20, 2⟩) (meth := k20m2) (c := k20c2) (by decide +kernel) rfl rfl rfl (by decide +kernel)
set_option maxRecDepth 65536 in
theorem w_c46 : (Jvm.Cond.code ({ cls := "java/lang/StringUTF16", name := "compress", desc := "([CI[BII)I" } : Jvm.MethodName) jdk_52_method_21_code (7 : Nat) (Option.some Jvm.ClassFile.FieldType.int)).before args0 about1 = true := code_word (m := ⟨20, 3⟩) (meth := k20m3) (c := k20c3) (by decide +kernel) rfl rfl rfl (by decide +kernel)
set_option maxRecDepth 65536 in
theorem w_c47 : (Jvm.Cond.code ({ cls := "java/lang/StringUTF16", name := "coderFromArrayLen", desc := "([BI)B" } : Jvm.MethodName) jdk_52_method_15_code (2 : Nat) (Option.some Jvm.ClassFile.FieldType.byte)).before args0 about1 = true := code_word (m := ⟨20, 1⟩) (meth := k20m1) (c := k20c1) (by decide +kernel) rfl rfl rfl (by decide +kernel)
set_option maxRecDepth 65536 in
theorem w_c48 : (Jvm.Cond.code ({ cls := "java/lang/AbstractStringBuilder", name := "newCapacity", desc := "(I)I" } : Jvm.MethodName) jdk_68_method_10_code (6 : Nat) (Option.some Jvm.ClassFile.FieldType.int)).before args0 about1 = true := code_word (m := ⟨12, 4⟩) (meth := k12m4) (c := k12c4) (by decide +kernel) rfl rfl rfl (by decide +kernel)
set_option maxRecDepth 65536 in
theorem w_c49 : (Jvm.Cond.code ({ cls := "jdk/internal/util/ArraysSupport", name := "newLength", desc := "(III)I" } : Jvm.MethodName) jdk_48_method_27_code (4 : Nat) (Option.some Jvm.ClassFile.FieldType.int)).before args0 about1 = true := code_word (m := ⟨21, 1⟩) (meth := k21m1) (c := k21c1) (by decide +kernel) rfl rfl rfl (by decide +kernel)
set_option maxRecDepth 65536 in
theorem w_c50 : (Jvm.Cond.code ({ cls := "java/lang/Math", name := "max", desc := "(II)I" } : Jvm.MethodName) jdk_29_method_65_code (2 : Nat) (Option.some Jvm.ClassFile.FieldType.int)).before args0 about1 = true := code_word (m := ⟨18, 1⟩) (meth := k18m1) (c := k18c1) (by decide +kernel) rfl rfl rfl (by decide +kernel)
set_option maxRecDepth 65536 in
theorem w_c51 : (Jvm.Cond.code ({ cls := "java/util/Arrays", name := "copyOf", desc := "([BI)[B" } : Jvm.MethodName) jdk_65_method_121_code (3 : Nat) (Option.some (Jvm.ClassFile.FieldType.array Jvm.ClassFile.FieldType.byte))).before args0 about1 = true := code_word (m := ⟨17, 1⟩) (meth := k17m1) (c := k17c1) (by decide +kernel) rfl rfl rfl (by decide +kernel)
set_option maxRecDepth 65536 in
theorem w_c52 : (Jvm.Cond.code ({ cls := "java/lang/String", name := "equals", desc := "(Ljava/lang/Object;)Z" } : Jvm.MethodName) jdk_42_method_66_code (3 : Nat) (Option.some Jvm.ClassFile.FieldType.boolean)).before args0 about1 = true := code_word (m := ⟨7, 5⟩) (meth := k7m5) (c := k7c5) (by decide +kernel) rfl rfl rfl (by decide +kernel)
set_option maxRecDepth 65536 in
theorem w_c53 : (Jvm.Cond.code ({ cls := "java/lang/AbstractStringBuilder", name := "appendNull", desc := "()Ljava/lang/AbstractStringBuilder;" } : Jvm.MethodName) jdk_68_method_26_code (3 : Nat) (Option.some (Jvm.ClassFile.FieldType.object "java/lang/AbstractStringBuilder"))).before args0 about1 = true := code_word (m := ⟨12, 6⟩) (meth := k12m6) (c := k12c6) (by decide +kernel) rfl rfl rfl (by decide +kernel)
def codes1 : List Jvm.Cond := [Jvm.Cond.code x code maxLocals ret, Jvm.Cond.code ({ cls := "java/lang/String", name := "valueOf", desc := "(C)Ljava/lang/String;" } : Jvm.MethodName) jdk_42_method_139_code (1 : Nat) (Option.some (Jvm.ClassFile.FieldType.object "java/lang/String")), Jvm.Cond.code ({ cls := "java/lang/StringLatin1", name := "canEncode", desc := "(C)Z" } : Jvm.MethodName) jdk_43_method_3_code (1 : Nat) (Option.some Jvm.ClassFile.FieldType.boolean), Jvm.Cond.code ({ cls := "java/lang/StringLatin1", name := "toBytes", desc := "(C)[B" } : Jvm.MethodName) jdk_43_method_46_code (1 : Nat) (Option.some (Jvm.ClassFile.FieldType.array Jvm.ClassFile.FieldType.byte)), Jvm.Cond.code ({ cls := "java/lang/String", name := "<init>", desc := "([BB)V" } : Jvm.MethodName) jdk_42_method_151_code (3 : Nat) (Option.none : Option Jvm.ClassFile.FieldType), Jvm.Cond.code ({ cls := "java/lang/Object", name := "<init>", desc := "()V" } : Jvm.MethodName) object_method_1_code (1 : Nat) (Option.none : Option Jvm.ClassFile.FieldType), Jvm.Cond.code ({ cls := "com/example/mortise/mortise/core/Problem", name := "<init>", desc := "(Ljava/lang/String;IILjava/lang/String;)V" } : Jvm.MethodName) prog_7_method_1_code (5 : Nat) (Option.none : Option Jvm.ClassFile.FieldType), Jvm.Cond.code ({ cls := "java/lang/Record", name := "<init>", desc := "()V" } : Jvm.MethodName) jdk_30_method_1_code (1 : Nat) (Option.none : Option Jvm.ClassFile.FieldType), Jvm.Cond.code ({ cls := "com/example/mortise/mortise/core/Problem", name := "location", desc := "()Ljava/lang/String;" } : Jvm.MethodName) prog_7_method_4_code (1 : Nat) (Option.some (Jvm.ClassFile.FieldType.object "java/lang/String")), Jvm.Cond.code ({ cls := "java/lang/String", name := "<init>", desc := "([C)V" } : Jvm.MethodName) jdk_42_method_3_code (2 : Nat) (Option.none : Option Jvm.ClassFile.FieldType), Jvm.Cond.code ({ cls := "java/lang/String", name := "<init>", desc := "([CIILjava/lang/Void;)V" } : Jvm.MethodName) jdk_42_method_149_code (6 : Nat) (Option.none : Option Jvm.ClassFile.FieldType), Jvm.Cond.code ({ cls := "java/lang/StringBuilder", name := "<init>", desc := "()V" } : Jvm.MethodName) jdk_67_method_1_code (1 : Nat) (Option.none : Option Jvm.ClassFile.FieldType), Jvm.Cond.code ({ cls := "java/lang/AbstractStringBuilder", name := "<init>", desc := "(I)V" } : Jvm.MethodName) jdk_68_method_2_code (2 : Nat) (Option.none : Option Jvm.ClassFile.FieldType), Jvm.Cond.code ({ cls := "java/lang/StringBuilder", name := "append", desc := "(Ljava/lang/String;)Ljava/lang/StringBuilder;" } : Jvm.MethodName) jdk_67_method_7_code (2 : Nat) (Option.some (Jvm.ClassFile.FieldType.object "java/lang/StringBuilder")), Jvm.Cond.code ({ cls := "java/lang/AbstractStringBuilder", name := "append", desc := "(Ljava/lang/String;)Ljava/lang/AbstractStringBuilder;" } : Jvm.MethodName) jdk_68_method_22_code (3 : Nat) (Option.some (Jvm.ClassFile.FieldType.object "java/lang/AbstractStringBuilder")), Jvm.Cond.code ({ cls := "java/lang/String", name := "length", desc := "()I" } : Jvm.MethodName) jdk_42_method_54_code (1 : Nat) (Option.some Jvm.ClassFile.FieldType.int), Jvm.Cond.code ({ cls := "java/lang/String", name := "coder", desc := "()B" } : Jvm.MethodName) jdk_42_method_152_code (1 : Nat) (Option.some Jvm.ClassFile.FieldType.byte), Jvm.Cond.code ({ cls := "java/lang/AbstractStringBuilder", name := "ensureCapacityInternal", desc := "(I)V" } : Jvm.MethodName) jdk_68_method_9_code (3 : Nat) (Option.none : Option Jvm.ClassFile.FieldType), Jvm.Cond.code ({ cls := "java/lang/AbstractStringBuilder", name := "putStringAt", desc := "(ILjava/lang/String;)V" } : Jvm.MethodName) jdk_68_method_73_code (3 : Nat) (Option.none : Option Jvm.ClassFile.FieldType), Jvm.Cond.code ({ cls := "java/lang/AbstractStringBuilder", name := "inflateIfNeededFor", desc := "(Ljava/lang/String;)V" } : Jvm.MethodName) jdk_68_method_71_code (2 : Nat) (Option.none : Option Jvm.ClassFile.FieldType), Jvm.Cond.code ({ cls := "java/lang/String", name := "getBytes", desc := "([BIB)V" } : Jvm.MethodName) jdk_42_method_147_code (4 : Nat) (Option.none : Option Jvm.ClassFile.FieldType), Jvm.Cond.code ({ cls := "java/lang/StringBuilder", name := "append", desc := "(I)Ljava/lang/StringBuilder;" } : Jvm.MethodName) jdk_67_method_15_code (2 : Nat) (Option.some (Jvm.ClassFile.FieldType.object "java/lang/StringBuilder")), Jvm.Cond.code ({ cls := "java/lang/AbstractStringBuilder", name := "append", desc := "(I)Ljava/lang/AbstractStringBuilder;" } : Jvm.MethodName) jdk_68_method_32_code (4 : Nat) (Option.some (Jvm.ClassFile.FieldType.object "java/lang/AbstractStringBuilder")), Jvm.Cond.code ({ cls := "java/lang/Integer", name := "stringSize", desc := "(I)I" } : Jvm.MethodName) jdk_33_method_13_code (4 : Nat) (Option.some Jvm.ClassFile.FieldType.int), Jvm.Cond.code ({ cls := "java/lang/AbstractStringBuilder", name := "isLatin1", desc := "()Z" } : Jvm.MethodName) jdk_68_method_68_code (1 : Nat) (Option.some Jvm.ClassFile.FieldType.boolean), Jvm.Cond.code ({ cls := "java/lang/Integer", name := "getChars", desc := "(II[B)I" } : Jvm.MethodName) jdk_33_method_12_code (7 : Nat) (Option.some Jvm.ClassFile.FieldType.int), Jvm.Cond.code ({ cls := "java/lang/StringBuilder", name := "toString", desc := "()Ljava/lang/String;" } : Jvm.MethodName) jdk_67_method_42_code (1 : Nat) (Option.some (Jvm.ClassFile.FieldType.object "java/lang/String")), Jvm.Cond.code ({ cls := "java/lang/String", name := "<init>", desc := "(Ljava/lang/StringBuilder;)V" } : Jvm.MethodName) jdk_42_method_53_code (2 : Nat) (Option.none : Option Jvm.ClassFile.FieldType), Jvm.Cond.code ({ cls := "java/lang/String", name := "<init>", desc := "(Ljava/lang/AbstractStringBuilder;Ljava/lang/Void;)V" } : Jvm.MethodName) jdk_42_method_150_code (5 : Nat) (Option.none : Option Jvm.ClassFile.FieldType), Jvm.Cond.code ({ cls := "java/lang/AbstractStringBuilder", name := "getValue", desc := "()[B" } : Jvm.MethodName) jdk_68_method_64_code (1 : Nat) (Option.some (Jvm.ClassFile.FieldType.array Jvm.ClassFile.FieldType.byte)), Jvm.Cond.code ({ cls := "java/lang/StringBuilder", name := "length", desc := "()I" } : Jvm.MethodName) jdk_67_method_93_code (1 : Nat) (Option.some Jvm.ClassFile.FieldType.int), Jvm.Cond.code ({ cls := "java/lang/AbstractStringBuilder", name := "length", desc := "()I" } : Jvm.MethodName) jdk_68_method_6_code (1 : Nat) (Option.some Jvm.ClassFile.FieldType.int), Jvm.Cond.code ({ cls := "java/util/Arrays", name := "copyOfRange", desc := "([BII)[B" } : Jvm.MethodName) jdk_65_method_132_code (3 : Nat) (Option.some (Jvm.ClassFile.FieldType.array Jvm.ClassFile.FieldType.byte)), Jvm.Cond.code ({ cls := "java/util/Arrays", name := "copyOfRangeByte", desc := "([BII)[B" } : Jvm.MethodName) jdk_65_method_133_code (5 : Nat) (Option.some (Jvm.ClassFile.FieldType.array Jvm.ClassFile.FieldType.byte)), Jvm.Cond.code ({ cls := "java/util/Arrays", name := "checkLength", desc := "(II)V" } : Jvm.MethodName) jdk_65_method_131_code (2 : Nat) (Option.none : Option Jvm.ClassFile.FieldType), Jvm.Cond.code ({ cls := "java/lang/Math", name := "min", desc := "(II)I" } : Jvm.MethodName) jdk_29_method_69_code (2 : Nat) (Option.some Jvm.ClassFile.FieldType.int), Jvm.Cond.code ({ cls := "com/example/mortise/mortise/core/ProblemLocationPinLaw", name := "put", desc := "([CII)I" } : Jvm.MethodName) method_6_code (7 : Nat) (Option.some Jvm.ClassFile.FieldType.int), Jvm.Cond.code ({ cls := "com/example/mortise/mortise/core/ProblemLocationPinLaw", name := "digits", desc := "(J)I" } : Jvm.MethodName) method_4_code (3 : Nat) (Option.some Jvm.ClassFile.FieldType.int), Jvm.Cond.code ({ cls := "com/example/mortise/mortise/core/ProblemLocationPinLaw", name := "one", desc := "([CIJII)V" } : Jvm.MethodName) method_5_code (7 : Nat) (Option.none : Option Jvm.ClassFile.FieldType), Jvm.Cond.code ({ cls := "com/example/mortise/mortise/core/ProblemLocationPinLaw", name := "at", desc := "(Ljava/lang/String;[CII)Z" } : Jvm.MethodName) method_3_code (4 : Nat) (Option.some Jvm.ClassFile.FieldType.boolean), Jvm.Cond.code ({ cls := "java/lang/String", name := "charAt", desc := "(I)C" } : Jvm.MethodName) jdk_42_method_56_code (2 : Nat) (Option.some Jvm.ClassFile.FieldType.char), Jvm.Cond.code ({ cls := "java/lang/String", name := "isLatin1", desc := "()Z" } : Jvm.MethodName) jdk_42_method_154_code (1 : Nat) (Option.some Jvm.ClassFile.FieldType.boolean), Jvm.Cond.code ({ cls := "java/lang/StringLatin1", name := "charAt", desc := "([BI)C" } : Jvm.MethodName) jdk_43_method_2_code (2 : Nat) (Option.some Jvm.ClassFile.FieldType.char), Jvm.Cond.code ({ cls := "java/lang/String", name := "checkIndex", desc := "(II)V" } : Jvm.MethodName) jdk_42_method_155_code (2 : Nat) (Option.none : Option Jvm.ClassFile.FieldType), Jvm.Cond.code ({ cls := "jdk/internal/util/Preconditions", name := "checkIndex", desc := "(IILjava/util/function/BiFunction;)I" } : Jvm.MethodName) jdk_41_method_11_code (3 : Nat) (Option.some Jvm.ClassFile.FieldType.int), Jvm.Cond.code ({ cls := "java/lang/StringUTF16", name := "compress", desc := "([CII)[B" } : Jvm.MethodName) jdk_52_method_16_code (6 : Nat) (Option.some (Jvm.ClassFile.FieldType.array Jvm.ClassFile.FieldType.byte)), Jvm.Cond.code ({ cls := "java/lang/StringUTF16", name := "compress", desc := "([CI[BII)I" } : Jvm.MethodName) jdk_52_method_21_code (7 : Nat) (Option.some Jvm.ClassFile.FieldType.int), Jvm.Cond.code ({ cls := "java/lang/StringUTF16", name := "coderFromArrayLen", desc := "([BI)B" } : Jvm.MethodName) jdk_52_method_15_code (2 : Nat) (Option.some Jvm.ClassFile.FieldType.byte), Jvm.Cond.code ({ cls := "java/lang/AbstractStringBuilder", name := "newCapacity", desc := "(I)I" } : Jvm.MethodName) jdk_68_method_10_code (6 : Nat) (Option.some Jvm.ClassFile.FieldType.int), Jvm.Cond.code ({ cls := "jdk/internal/util/ArraysSupport", name := "newLength", desc := "(III)I" } : Jvm.MethodName) jdk_48_method_27_code (4 : Nat) (Option.some Jvm.ClassFile.FieldType.int), Jvm.Cond.code ({ cls := "java/lang/Math", name := "max", desc := "(II)I" } : Jvm.MethodName) jdk_29_method_65_code (2 : Nat) (Option.some Jvm.ClassFile.FieldType.int), Jvm.Cond.code ({ cls := "java/util/Arrays", name := "copyOf", desc := "([BI)[B" } : Jvm.MethodName) jdk_65_method_121_code (3 : Nat) (Option.some (Jvm.ClassFile.FieldType.array Jvm.ClassFile.FieldType.byte)), Jvm.Cond.code ({ cls := "java/lang/String", name := "equals", desc := "(Ljava/lang/Object;)Z" } : Jvm.MethodName) jdk_42_method_66_code (3 : Nat) (Option.some Jvm.ClassFile.FieldType.boolean), Jvm.Cond.code ({ cls := "java/lang/AbstractStringBuilder", name := "appendNull", desc := "()Ljava/lang/AbstractStringBuilder;" } : Jvm.MethodName) jdk_68_method_26_code (3 : Nat) (Option.some (Jvm.ClassFile.FieldType.object "java/lang/AbstractStringBuilder"))]
set_option maxRecDepth 65536 in
theorem codes_eq : words1.filter isCode = codes1 := rfl
theorem w_codes : ∀ c ∈ words1.filter isCode, c.before args0 about1 = true := by
  rw [codes_eq]
  intro c hc
  simp only [codes1, List.mem_cons, List.not_mem_nil, or_false] at hc
  rcases hc with rfl | rfl | rfl | rfl | rfl | rfl | rfl | rfl | rfl | rfl | rfl | rfl | rfl | rfl | rfl | rfl | rfl | rfl | rfl | rfl | rfl | rfl | rfl | rfl | rfl | rfl | rfl | rfl | rfl | rfl | rfl | rfl | rfl | rfl | rfl | rfl | rfl | rfl | rfl | rfl | rfl | rfl | rfl | rfl | rfl | rfl | rfl | rfl | rfl | rfl | rfl | rfl | rfl | rfl
  · exact w_c0
  · exact w_c1
  · exact w_c2
  · exact w_c3
  · exact w_c4
  · exact w_c5
  · exact w_c6
  · exact w_c7
  · exact w_c8
  · exact w_c9
  · exact w_c10
  · exact w_c11
  · exact w_c12
  · exact w_c13
  · exact w_c14
  · exact w_c15
  · exact w_c16
  · exact w_c17
  · exact w_c18
  · exact w_c19
  · exact w_c20
  · exact w_c21
  · exact w_c22
  · exact w_c23
  · exact w_c24
  · exact w_c25
  · exact w_c26
  · exact w_c27
  · exact w_c28
  · exact w_c29
  · exact w_c30
  · exact w_c31
  · exact w_c32
  · exact w_c33
  · exact w_c34
  · exact w_c35
  · exact w_c36
  · exact w_c37
  · exact w_c38
  · exact w_c39
  · exact w_c40
  · exact w_c41
  · exact w_c42
  · exact w_c43
  · exact w_c44
  · exact w_c45
  · exact w_c46
  · exact w_c47
  · exact w_c48
  · exact w_c49
  · exact w_c50
  · exact w_c51
  · exact w_c52
  · exact w_c53
set_option maxRecDepth 65536 in
theorem w_t1 : (words1.take 24).all (fun c => isCode c || c.before args0 about1) = true := by decide +kernel
set_option maxRecDepth 65536 in
theorem w_t2 : ((words1.drop 24).take 24).all (fun c => isCode c || c.before args0 about1) = true := by decide +kernel
set_option maxRecDepth 65536 in
theorem w_t3 : (((words1.drop 24).drop 24).take 24).all (fun c => isCode c || c.before args0 about1) = true := by decide +kernel
set_option maxRecDepth 65536 in
theorem w_t4 : ((((words1.drop 24).drop 24).drop 24).take 24).all (fun c => isCode c || c.before args0 about1) = true := by decide +kernel
set_option maxRecDepth 65536 in
theorem w_t5 : (((((words1.drop 24).drop 24).drop 24).drop 24).take 24).all (fun c => isCode c || c.before args0 about1) = true := by decide +kernel
set_option maxRecDepth 65536 in
theorem w_t6 : ((((((words1.drop 24).drop 24).drop 24).drop 24).drop 24).take 24).all (fun c => isCode c || c.before args0 about1) = true := by decide +kernel
set_option maxRecDepth 65536 in
theorem w_t7 : (((((((words1.drop 24).drop 24).drop 24).drop 24).drop 24).drop 24).take 24).all (fun c => isCode c || c.before args0 about1) = true := by decide +kernel
set_option maxRecDepth 65536 in
theorem w_t8 : ((((((((words1.drop 24).drop 24).drop 24).drop 24).drop 24).drop 24).drop 24).take 24).all (fun c => isCode c || c.before args0 about1) = true := by decide +kernel
set_option maxRecDepth 65536 in
theorem w_t9 : (((((((((words1.drop 24).drop 24).drop 24).drop 24).drop 24).drop 24).drop 24).drop 24).take 24).all (fun c => isCode c || c.before args0 about1) = true := by decide +kernel
set_option maxRecDepth 65536 in
theorem w_t10 : ((((((((((words1.drop 24).drop 24).drop 24).drop 24).drop 24).drop 24).drop 24).drop 24).drop 24).take 24).all (fun c => isCode c || c.before args0 about1) = true := by decide +kernel
set_option maxRecDepth 65536 in
theorem w_t11 : (((((((((((words1.drop 24).drop 24).drop 24).drop 24).drop 24).drop 24).drop 24).drop 24).drop 24).drop 24).take 24).all (fun c => isCode c || c.before args0 about1) = true := by decide +kernel
set_option maxRecDepth 65536 in
theorem w_t12 : (((((((((((words1.drop 24).drop 24).drop 24).drop 24).drop 24).drop 24).drop 24).drop 24).drop 24).drop 24).drop 24).all (fun c => isCode c || c.before args0 about1) = true := by decide +kernel
theorem w_tables : (allAtoms (Jvm.Cond.code x code maxLocals ret :: tables_1)).before args0 about1 = true := by
  rw [allAtoms_all]
  show words1.all (fun c => c.before args0 about1) = true
  refine all_split ?_ w_codes
  rw [← List.take_append_drop 24 words1, List.all_append, w_t1, ← List.take_append_drop 24 (words1.drop 24), List.all_append, w_t2, ← List.take_append_drop 24 ((words1.drop 24).drop 24), List.all_append, w_t3, ← List.take_append_drop 24 (((words1.drop 24).drop 24).drop 24), List.all_append, w_t4, ← List.take_append_drop 24 ((((words1.drop 24).drop 24).drop 24).drop 24), List.all_append, w_t5, ← List.take_append_drop 24 (((((words1.drop 24).drop 24).drop 24).drop 24).drop 24), List.all_append, w_t6, ← List.take_append_drop 24 ((((((words1.drop 24).drop 24).drop 24).drop 24).drop 24).drop 24), List.all_append, w_t7, ← List.take_append_drop 24 (((((((words1.drop 24).drop 24).drop 24).drop 24).drop 24).drop 24).drop 24), List.all_append, w_t8, ← List.take_append_drop 24 ((((((((words1.drop 24).drop 24).drop 24).drop 24).drop 24).drop 24).drop 24).drop 24), List.all_append, w_t9, ← List.take_append_drop 24 (((((((((words1.drop 24).drop 24).drop 24).drop 24).drop 24).drop 24).drop 24).drop 24).drop 24), List.all_append, w_t10, ← List.take_append_drop 24 ((((((((((words1.drop 24).drop 24).drop 24).drop 24).drop 24).drop 24).drop 24).drop 24).drop 24).drop 24), List.all_append, w_t11, w_t12]
  rfl
set_option maxRecDepth 65536 in
theorem w_rest : rest_1_c.before args0 about1 = true := by decide +kernel
set_option maxRecDepth 65536 in
theorem w_case : (Jvm.Cond.and given_1 narrow_1).before args0 about1 = true := by decide +kernel
set_option maxRecDepth 65536 in
theorem w_consts : constsHeld consts_1 about1 := Jvm.Lit.constsHeldB_iff.mp (by decide +kernel)
theorem w_applies : (headSpec (Jvm.Cond.code x code maxLocals ret :: tables_1) room_1).applies x e0.platform about1 = true :=
  (Spec.applies_iff w_frames).mpr ⟨w_running, w_runnable, w_alone, w_named, w_hears, w_ripe, w_room, w_tables⟩
theorem atStart : AtStart classFile x code maxLocals ret World_1 tables_1 room_1 Calls_1 rest_1 Pre_1 launch0 p0 e0 about1 theMethod args0 below0 :=
  ⟨lists_1, trivial, launch0.admits_env _ _ _, launch0.least_env, fairChoices_fair.cas, fairChoices_fair.clock, w_frames, w_args, w_heap, w_applies, ⟨w_consts, trivial⟩, w_rest, w_case⟩
end start1
theorem witness_1 : WitnessClaimed_1 := ⟨start1.p0, start1.e0, start1.about1, start1.theMethod, start1.args0, start1.below0, start1.atStart⟩
end Jvm.Pilot.@@N@@
