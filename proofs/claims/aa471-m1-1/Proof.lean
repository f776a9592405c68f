import JvmDerived
import JvmDerived.Pilot.@@N@@Statement
import JvmDerived.Pilot.@@N@@Code
set_option linter.unusedVariables false
set_option linter.unusedSimpArgs false
@@BLOCK:NumsL.lean.txt@@
namespace Jvm.Own
open Sem ClassFile Op Lib Jvm.Stand Jvm.Free Jvm.LawKit Jvm.RoadKit
/-- from the state A the run comes to an end that meets G -/
def Goes (tb : Tables) (e : Env) (below : List Frame) (G : Outcome → State → Prop) (A : State) : Prop := ∃ s₂ o, Steps tb e below A s₂ ∧ s₂.status = .running ∧ Ended s₂ below o ∧ G o s₂
/-- what a body's walk may lean on throughout -/
def Ctx (p : Program) (Z s : State) (m : MethodId) (meth : Method) (c : Code) (bs : ByteArray) (own : String) (maxL : Nat) (ret : Option FieldType) : Prop :=
  p.tables.exec = Jvm.exec ∧ Z.Warmed39 s.vm ∧ c.code = bs ∧ c.maxLocals = maxL ∧ s.vm.findClass own = some m.cls ∧ meth.sig.returnType = ret ∧ meth.locks = false
section Kit
variable {p : Program} {l : Launch} {e : Env} {R : Room} {s : State} {m : MethodId} {args : Array Value} {below : List Frame} {meth : Method} {c : Code} {T : State} {locs : List Loc} {cells slots : Nat} {Z : State} {a0 : Array Value} {h : Heap} {G : Outcome → State → Prop} {bs : ByteArray} {own : String} {maxL : Nat} {ret : Option FieldType}
theorem Goes.on {tb : Tables} {A B : State} (k : ∀ t, Steps tb e below B t → Steps tb e below A t) (h : Goes tb e below G B) : Goes tb e below G A := by
  obtain ⟨s2, o, h1, h2⟩ := h
  exact ⟨s2, o, k _ h1, h2⟩
theorem Goes.to {tb : Tables} {A B : State} (q : A = B) (h : Goes tb e below G B) : Goes tb e below G A := q ▸ h
theorem body_of {y : MethodName} {bytes : ByteArray} {ws : List Cond} {as' : Array Value} {h0 : Heap} {Q : Option Value → Heap → List Loc → Prop} (hplain : plainFor y = true)
    (H : ∀ p e s m below meth c s₁ G, Ctx p Z s m meth c bytes y.cls maxL ret → meth.name = y.name → s.methodNamed? y = some m → Stand p l e R s m as' below meth c s₁ [] 0 0 → s₁.heap = h0 →
      (∀ (v : Option Value) (L : List Loc) (T' : State), Q v T'.heap L → s.WarmedH T'.vm → s.sameButNew ({ T' with vm := s.vm } : State) L R.cells R.slots → G (.returned v) T') →
      Goes p.tables e below G (s₁.setTop (entryFrame m as' maxL))) :
    MetFree l y (head1 (Cond.code y bytes maxL ret :: ws) R) (fun a U => a = as' ∧ Z.Warmed39 U.vm ∧ U.heap = h0) (fun _ _ _ _ _ => True) (fun _ U o U' => ∃ v L, o = .returned v ∧ Q v U'.heap L ∧ FrameEnd U o U' L R.cells R.slots) := by
  refine MetFree.of_bodySF hplain hisR ?_
  intro p e s m args below meth c s₁ Bd hml0 hP hK
  obtain ⟨rfl, hZ, hh⟩ := hP
  exact H p e s m below meth c s₁ _ ⟨Bd.exec, hZ, Bd.bytes, hml0, findClass_of_methodNamed Bd.named, Bd.returns, BodyLoose.notSynchronized Bd⟩ (name_of_methodNamed Bd.named Bd.method).1 Bd.named (Stand.of_body Bd) (by rw [← hh, Bd.state]; rfl)
    (fun v L T' hQ hW hS => ⟨v, L, rfl, hQ, ⟨_, rfl⟩, hW, hS⟩)
abbrev jv (x : Int64) : Slot := .val (.long x)
abbrev nv : Slot := .val .null
abbrev uu : Slot := .unset
abbrev sd : Slot := .second
abbrev OwnMF (l : Launch) (Z : State) (y : MethodName) (bytes : ByteArray) (maxL : Nat) (ret : Option FieldType) (ws : List Cond) (R : Room) (as' : Array Value) (h0 : Heap) (Q : Option Value → Heap → List Loc → Prop) : Prop := MetFree l y (head1 (Cond.code y bytes maxL ret :: ws) R) (fun a U => a = as' ∧ Z.Warmed39 U.vm ∧ U.heap = h0) (fun _ _ _ _ _ => True) (fun _ U o U' => ∃ v L, o = .returned v ∧ Q v U'.heap L ∧ FrameEnd U o U' L R.cells R.slots)
abbrev OwnMFH (l : Launch) (Z : State) (EL : List (String × Nat)) (y : MethodName) (bytes : ByteArray) (maxL : Nat) (ret : Option FieldType) (ws : List Cond) (R : Room) (as' : Array Value) (h0 : Heap) (Q : Option Value → Heap → List Loc → Prop) : Prop := MetFree l y (head1 (Cond.code y bytes maxL ret :: ws) R) (fun a U => a = as' ∧ Z.Warmed39 U.vm ∧ U.heap = h0 ∧ CHv Z EL U.vm h0) (fun _ _ _ _ _ => True) (fun _ U o U' => ∃ v L, o = .returned v ∧ Q v U'.heap L ∧ CHr Z EL U.vm U.heap U'.vm U'.heap ∧ ReturnedEndW U o U' L R.cells R.slots)
theorem ret1 {pc : Nat} {ls : Array Slot} {v : Value} {rest : List Value} (h : Goes p.tables e below G (T.setTop (mkF m pc ls (v :: rest)))) : Goes p.tables e below G (T.setTop (mkF m pc ls ((some v).toList ++ rest))) := h
theorem ret0 {pc : Nat} {ls : Array Slot} {rest : List Value} (h : Goes p.tables e below G (T.setTop (mkF m pc ls rest))) : Goes p.tables e below G (T.setTop (mkF m pc ls ((none : Option Value).toList ++ rest))) := h
theorem g_iloadN (C : Ctx p Z s m meth c bs own maxL ret) (X : Stand p l e R s m args below meth c T locs cells slots) {pc : Nat} {ls : Array Slot} {st : List Value} {k : Fin 4} {v : Int32} (hd : decode bs pc = .ok (.iload_n k, 1)) (pc' : Nat) (hl : ls[k.val]? = some (.val (.int v))) (k : Goes p.tables e below G (T.setTop (mkF m pc' ls (.int v :: st)))) (hp : pc + 1 = pc' := by rfl) : Goes p.tables e below G (T.setTop (mkF m pc ls st)) := by
  subst hp
  exact Goes.on (fun _ k => XS.iloadN X.here C.1 rfl (hb C.2.2.1 hd) hl k) k
theorem g_iload (C : Ctx p Z s m meth c bs own maxL ret) (X : Stand p l e R s m args below meth c T locs cells slots) {pc : Nat} {ls : Array Slot} {st : List Value} {k : Nat} {v : Int32} (hd : decode bs pc = .ok (.iload k, 2)) (pc' : Nat) (hl : ls[k]? = some (.val (.int v))) (k : Goes p.tables e below G (T.setTop (mkF m pc' ls (.int v :: st)))) (hp : pc + 2 = pc' := by rfl) : Goes p.tables e below G (T.setTop (mkF m pc ls st)) := by
  subst hp
  exact Goes.on (fun _ k => XS.iload X.here C.1 rfl (hb C.2.2.1 hd) hl k) k
theorem g_istoreN (C : Ctx p Z s m meth c bs own maxL ret) (X : Stand p l e R s m args below meth c T locs cells slots) {pc : Nat} {ls ls' : Array Slot} {st : List Value} {k : Fin 4} {v w : Int32} (hd : decode bs pc = .ok (.istore_n k, 1)) (pc' : Nat) (hv : v = w) (hl : storeLocals ls k.val (.int w) = some ls') (k : Goes p.tables e below G (T.setTop (mkF m pc' ls' st))) (hp : pc + 1 = pc' := by rfl) : Goes p.tables e below G (T.setTop (mkF m pc ls (.int v :: st))) := by
  subst hp hv
  exact Goes.on (fun _ k => XS.istoreN X.here C.1 rfl (hb C.2.2.1 hd) rfl hl k) k
theorem g_istore (C : Ctx p Z s m meth c bs own maxL ret) (X : Stand p l e R s m args below meth c T locs cells slots) {pc : Nat} {ls ls' : Array Slot} {st : List Value} {k : Nat} {v w : Int32} (hd : decode bs pc = .ok (.istore k, 2)) (pc' : Nat) (hv : v = w) (hl : storeLocals ls k (.int w) = some ls') (k : Goes p.tables e below G (T.setTop (mkF m pc' ls' st))) (hp : pc + 2 = pc' := by rfl) : Goes p.tables e below G (T.setTop (mkF m pc ls (.int v :: st))) := by
  subst hp hv
  exact Goes.on (fun _ k => XS.istore X.here C.1 rfl (hb C.2.2.1 hd) rfl hl k) k
theorem g_aloadN (C : Ctx p Z s m meth c bs own maxL ret) (X : Stand p l e R s m args below meth c T locs cells slots) {pc : Nat} {ls : Array Slot} {st : List Value} {k : Fin 4} {v : Value} (hd : decode bs pc = .ok (.aload_n k, 1)) (pc' : Nat) (hl : ls[k.val]? = some (.val v)) (hv : v.isRef = true) (k : Goes p.tables e below G (T.setTop (mkF m pc' ls (v :: st)))) (hp : pc + 1 = pc' := by rfl) : Goes p.tables e below G (T.setTop (mkF m pc ls st)) := by
  subst hp
  exact Goes.on (fun _ k => XS.aloadN X.here C.1 rfl (hb C.2.2.1 hd) hl hv k) k
theorem g_aload (C : Ctx p Z s m meth c bs own maxL ret) (X : Stand p l e R s m args below meth c T locs cells slots) {pc : Nat} {ls : Array Slot} {st : List Value} {k : Nat} {v : Value} (hd : decode bs pc = .ok (.aload k, 2)) (pc' : Nat) (hl : ls[k]? = some (.val v)) (hv : v.isRef = true) (k : Goes p.tables e below G (T.setTop (mkF m pc' ls (v :: st)))) (hp : pc + 2 = pc' := by rfl) : Goes p.tables e below G (T.setTop (mkF m pc ls st)) := by
  subst hp
  exact Goes.on (fun _ k => XS.aload X.here C.1 rfl (hb C.2.2.1 hd) hl hv k) k
theorem g_astoreN (C : Ctx p Z s m meth c bs own maxL ret) (X : Stand p l e R s m args below meth c T locs cells slots) {pc : Nat} {ls ls' : Array Slot} {st : List Value} {k : Fin 4} {v : Value} (hd : decode bs pc = .ok (.astore_n k, 1)) (pc' : Nat) (hv : v.isRef = true) (hl : storeLocals ls k.val v = some ls') (k : Goes p.tables e below G (T.setTop (mkF m pc' ls' st))) (hp : pc + 1 = pc' := by rfl) : Goes p.tables e below G (T.setTop (mkF m pc ls (v :: st))) := by
  subst hp
  exact Goes.on (fun _ k => XS.astoreN X.here C.1 rfl (hb C.2.2.1 hd) rfl hv hl k) k
theorem g_astore (C : Ctx p Z s m meth c bs own maxL ret) (X : Stand p l e R s m args below meth c T locs cells slots) {pc : Nat} {ls ls' : Array Slot} {st : List Value} {k : Nat} {v : Value} (hd : decode bs pc = .ok (.astore k, 2)) (pc' : Nat) (hv : v.isRef = true) (hl : storeLocals ls k v = some ls') (k : Goes p.tables e below G (T.setTop (mkF m pc' ls' st))) (hp : pc + 2 = pc' := by rfl) : Goes p.tables e below G (T.setTop (mkF m pc ls (v :: st))) := by
  subst hp
  exact Goes.on (fun _ k => XS.astore X.here C.1 rfl (hb C.2.2.1 hd) rfl hv hl k) k
theorem g_iconst (C : Ctx p Z s m meth c bs own maxL ret) (X : Stand p l e R s m args below meth c T locs cells slots) {pc : Nat} {ls : Array Slot} {st : List Value} {i : Int} {v : Int32} (hd : decode bs pc = .ok (.iconst i, 1)) (pc' : Nat) (hv : Int32.ofInt i = v) (k : Goes p.tables e below G (T.setTop (mkF m pc' ls (.int v :: st)))) (hp : pc + 1 = pc' := by rfl) : Goes p.tables e below G (T.setTop (mkF m pc ls st)) := by
  subst hp hv
  exact Goes.on (fun _ k => XS.iconst X.here C.1 rfl (hb C.2.2.1 hd) k) k
theorem g_bipush (C : Ctx p Z s m meth c bs own maxL ret) (X : Stand p l e R s m args below meth c T locs cells slots) {pc : Nat} {ls : Array Slot} {st : List Value} {i : Int} {v : Int32} (hd : decode bs pc = .ok (.bipush i, 2)) (pc' : Nat) (hv : (Int8.ofInt i).toInt32 = v) (k : Goes p.tables e below G (T.setTop (mkF m pc' ls (.int v :: st)))) (hp : pc + 2 = pc' := by rfl) : Goes p.tables e below G (T.setTop (mkF m pc ls st)) := by
  subst hp hv
  exact Goes.on (fun _ k => XS.bipush X.here C.1 rfl (hb C.2.2.1 hd) k) k
theorem g_sipush (C : Ctx p Z s m meth c bs own maxL ret) (X : Stand p l e R s m args below meth c T locs cells slots) {pc : Nat} {ls : Array Slot} {st : List Value} {i : Int} {v : Int32} (hd : decode bs pc = .ok (.sipush i, 3)) (pc' : Nat) (hv : (Int16.ofInt i).toInt32 = v) (k : Goes p.tables e below G (T.setTop (mkF m pc' ls (.int v :: st)))) (hp : pc + 3 = pc' := by rfl) : Goes p.tables e below G (T.setTop (mkF m pc ls st)) := by
  subst hp hv
  exact Goes.on (fun _ k => XS.sipush X.here C.1 rfl (hb C.2.2.1 hd) k) k
theorem g_aconstNull (C : Ctx p Z s m meth c bs own maxL ret) (X : Stand p l e R s m args below meth c T locs cells slots) {pc : Nat} {ls : Array Slot} {st : List Value} (hd : decode bs pc = .ok (.aconst_null, 1)) (pc' : Nat) (k : Goes p.tables e below G (T.setTop (mkF m pc' ls (.null :: st)))) (hp : pc + 1 = pc' := by rfl) : Goes p.tables e below G (T.setTop (mkF m pc ls st)) := by
  subst hp
  exact Goes.on (fun _ k => XS.aconstNull X.here C.1 rfl (hb C.2.2.1 hd) k) k
theorem g_iadd (C : Ctx p Z s m meth c bs own maxL ret) (X : Stand p l e R s m args below meth c T locs cells slots) {pc : Nat} {ls : Array Slot} {st : List Value} {x y : Int32} (hd : decode bs pc = .ok (.iadd, 1)) (pc' : Nat) (k : Goes p.tables e below G (T.setTop (mkF m pc' ls (.int (x + y) :: st)))) (hp : pc + 1 = pc' := by rfl) : Goes p.tables e below G (T.setTop (mkF m pc ls (.int y :: .int x :: st))) := by
  subst hp
  exact Goes.on (fun _ k => XS.iadd X.here C.1 rfl (hb C.2.2.1 hd) rfl k) k
theorem g_isub (C : Ctx p Z s m meth c bs own maxL ret) (X : Stand p l e R s m args below meth c T locs cells slots) {pc : Nat} {ls : Array Slot} {st : List Value} {x y : Int32} (hd : decode bs pc = .ok (.isub, 1)) (pc' : Nat) (k : Goes p.tables e below G (T.setTop (mkF m pc' ls (.int (x - y) :: st)))) (hp : pc + 1 = pc' := by rfl) : Goes p.tables e below G (T.setTop (mkF m pc ls (.int y :: .int x :: st))) := by
  subst hp
  exact Goes.on (fun _ k => XS.isub X.here C.1 rfl (hb C.2.2.1 hd) rfl k) k
theorem g_iand (C : Ctx p Z s m meth c bs own maxL ret) (X : Stand p l e R s m args below meth c T locs cells slots) {pc : Nat} {ls : Array Slot} {st : List Value} {x y : Int32} (hd : decode bs pc = .ok (.iand, 1)) (pc' : Nat) (k : Goes p.tables e below G (T.setTop (mkF m pc' ls (.int (x &&& y) :: st)))) (hp : pc + 1 = pc' := by rfl) : Goes p.tables e below G (T.setTop (mkF m pc ls (.int y :: .int x :: st))) := by
  subst hp
  exact Goes.on (fun _ k => XS.iand X.here C.1 rfl (hb C.2.2.1 hd) rfl k) k
theorem g_ishr (C : Ctx p Z s m meth c bs own maxL ret) (X : Stand p l e R s m args below meth c T locs cells slots) {pc : Nat} {ls : Array Slot} {st : List Value} {x y : Int32} (hd : decode bs pc = .ok (.ishr, 1)) (pc' : Nat) (k : Goes p.tables e below G (T.setTop (mkF m pc' ls (.int (x >>> (y &&& 31)) :: st)))) (hp : pc + 1 = pc' := by rfl) : Goes p.tables e below G (T.setTop (mkF m pc ls (.int y :: .int x :: st))) := by
  subst hp
  exact Goes.on (fun _ k => XT.ishr X.here C.1 rfl (hb C.2.2.1 hd) rfl k) k
theorem g_iushr (C : Ctx p Z s m meth c bs own maxL ret) (X : Stand p l e R s m args below meth c T locs cells slots) {pc : Nat} {ls : Array Slot} {st : List Value} {x y : Int32} (hd : decode bs pc = .ok (.iushr, 1)) (pc' : Nat) (k : Goes p.tables e below G (T.setTop (mkF m pc' ls (.int (XT.ushr x y) :: st)))) (hp : pc + 1 = pc' := by rfl) : Goes p.tables e below G (T.setTop (mkF m pc ls (.int y :: .int x :: st))) := by
  subst hp
  exact Goes.on (fun _ k => XT.iushr X.here C.1 rfl (hb C.2.2.1 hd) rfl k) k
theorem g_irem (C : Ctx p Z s m meth c bs own maxL ret) (X : Stand p l e R s m args below meth c T locs cells slots) {pc : Nat} {ls : Array Slot} {st : List Value} {x y : Int32} (hd : decode bs pc = .ok (.irem, 1)) (pc' : Nat) (hy : y ≠ 0) (k : Goes p.tables e below G (T.setTop (mkF m pc' ls (.int (x % y) :: st)))) (hp : pc + 1 = pc' := by rfl) : Goes p.tables e below G (T.setTop (mkF m pc ls (.int y :: .int x :: st))) := by
  subst hp
  exact Goes.on (fun _ k => iremM X C.1 rfl (hb C.2.2.1 hd) rfl hy k) k
theorem g_i2c (C : Ctx p Z s m meth c bs own maxL ret) (X : Stand p l e R s m args below meth c T locs cells slots) {pc : Nat} {ls : Array Slot} {st : List Value} {x : Int32} (hd : decode bs pc = .ok (.i2c, 1)) (pc' : Nat) (k : Goes p.tables e below G (T.setTop (mkF m pc' ls (.int x.toUInt32.toUInt16.toUInt32.toInt32 :: st)))) (hp : pc + 1 = pc' := by rfl) : Goes p.tables e below G (T.setTop (mkF m pc ls (.int x :: st))) := by
  subst hp
  exact Goes.on (fun _ k => XT.i2c X.here C.1 rfl (hb C.2.2.1 hd) rfl k) k
theorem g_i2b (C : Ctx p Z s m meth c bs own maxL ret) (X : Stand p l e R s m args below meth c T locs cells slots) {pc : Nat} {ls : Array Slot} {st : List Value} {x : Int32} (hd : decode bs pc = .ok (.i2b, 1)) (pc' : Nat) (k : Goes p.tables e below G (T.setTop (mkF m pc' ls (.int x.toInt8.toInt32 :: st)))) (hp : pc + 1 = pc' := by rfl) : Goes p.tables e below G (T.setTop (mkF m pc ls (.int x :: st))) := by
  subst hp
  exact Goes.on (fun _ k => XT.i2b X.here C.1 rfl (hb C.2.2.1 hd) rfl k) k
theorem g_dup (C : Ctx p Z s m meth c bs own maxL ret) (X : Stand p l e R s m args below meth c T locs cells slots) {pc : Nat} {ls : Array Slot} {st : List Value} {x : Value} (hd : decode bs pc = .ok (.dup, 1)) (pc' : Nat) (hc : x.category = 1) (k : Goes p.tables e below G (T.setTop (mkF m pc' ls (x :: x :: st)))) (hp : pc + 1 = pc' := by rfl) : Goes p.tables e below G (T.setTop (mkF m pc ls (x :: st))) := by
  subst hp
  exact Goes.on (fun _ k => XS.dup X.here C.1 rfl (hb C.2.2.1 hd) rfl hc k) k
theorem g_pop (C : Ctx p Z s m meth c bs own maxL ret) (X : Stand p l e R s m args below meth c T locs cells slots) {pc : Nat} {ls : Array Slot} {st : List Value} {x : Value} (hd : decode bs pc = .ok (.pop, 1)) (pc' : Nat) (hc : x.category = 1) (k : Goes p.tables e below G (T.setTop (mkF m pc' ls st))) (hp : pc + 1 = pc' := by rfl) : Goes p.tables e below G (T.setTop (mkF m pc ls (x :: st))) := by
  subst hp
  exact Goes.on (fun _ k => XT.pop X.here C.1 rfl (hb C.2.2.1 hd) rfl hc k) k
theorem g_iinc (C : Ctx p Z s m meth c bs own maxL ret) (X : Stand p l e R s m args below meth c T locs cells slots) {pc : Nat} {ls ls' : Array Slot} {st : List Value} {k : Nat} {cst : Int} {x w : Int32} (hd : decode bs pc = .ok (.iinc k cst, 3)) (pc' : Nat) (hl : ls[k]? = some (.val (.int x))) (hv : x + Int32.ofInt cst = w) (hl' : storeLocals ls k (.int w) = some ls') (k : Goes p.tables e below G (T.setTop (mkF m pc' ls' st))) (hp : pc + 3 = pc' := by rfl) : Goes p.tables e below G (T.setTop (mkF m pc ls st)) := by
  subst hp hv
  exact Goes.on (fun _ k => XS.iinc X.here C.1 rfl (hb C.2.2.1 hd) hl hl' k) k
theorem g_goto (C : Ctx p Z s m meth c bs own maxL ret) (X : Stand p l e R s m args below meth c T locs cells slots) {pc : Nat} {ls : Array Slot} {st : List Value} {o : Int} (hd : decode bs pc = .ok (.goto o, 3)) (pc' : Nat) (k : Goes p.tables e below G (T.setTop (mkF m pc' ls st))) (ho : 0 ≤ (pc : Int) + o := by decide) (hp : ((pc : Int) + o).toNat = pc' := by decide) : Goes p.tables e below G (T.setTop (mkF m pc ls st)) :=
  Goes.on (fun _ k => XS.goto X.here C.1 rfl (pc0 := pc) (pc' := pc') rfl (hb C.2.2.1 hd) ho hp k) k
theorem g_icmp_eq (C : Ctx p Z s m meth c bs own maxL ret) (X : Stand p l e R s m args below meth c T locs cells slots) {pc : Nat} {ls : Array Slot} {st : List Value} {x y : Int32} {o : Int} (hd : decode bs pc = .ok (.if_icmp .eq o, 3)) (pcT pcN : Nat) (hyes : x = y → Goes p.tables e below G (T.setTop (mkF m pcT ls st))) (hno : ¬ x = y → Goes p.tables e below G (T.setTop (mkF m pcN ls st))) (ho : 0 ≤ (pc : Int) + o := by decide) (hp : ((pc : Int) + o).toNat = pcT := by decide) (hq : pc + 3 = pcN := by rfl) : Goes p.tables e below G (T.setTop (mkF m pc ls (.int y :: .int x :: st))) := by
  subst hq
  by_cases q : x = y
  · exact Goes.on (fun _ k => XS.icmpYes X.here C.1 rfl (pc0 := pc) (pc' := pcT) rfl (hb C.2.2.1 hd) rfl (teq q).1 ho hp k) (hyes q)
  · exact Goes.on (fun _ k => XS.icmpNo X.here C.1 rfl (hb C.2.2.1 hd) rfl (feq q).1 k) (hno q)
theorem g_if_eq (C : Ctx p Z s m meth c bs own maxL ret) (X : Stand p l e R s m args below meth c T locs cells slots) {pc : Nat} {ls : Array Slot} {st : List Value} {x : Int32} {o : Int} (hd : decode bs pc = .ok (.ifCond .eq o, 3)) (pcT pcN : Nat) (hyes : x = (0 : Int32) → Goes p.tables e below G (T.setTop (mkF m pcT ls st))) (hno : ¬ x = (0 : Int32) → Goes p.tables e below G (T.setTop (mkF m pcN ls st))) (ho : 0 ≤ (pc : Int) + o := by decide) (hp : ((pc : Int) + o).toNat = pcT := by decide) (hq : pc + 3 = pcN := by rfl) : Goes p.tables e below G (T.setTop (mkF m pc ls (.int x :: st))) := by
  subst hq
  by_cases q : x = (0 : Int32)
  · exact Goes.on (fun _ k => XS.ifYes X.here C.1 rfl (pc0 := pc) (pc' := pcT) rfl (hb C.2.2.1 hd) rfl ((if0 _ _).trans (teq q).1) ho hp k) (hyes q)
  · exact Goes.on (fun _ k => XS.ifNo X.here C.1 rfl (hb C.2.2.1 hd) rfl ((if0 _ _).trans (feq q).1) k) (hno q)
theorem g_icmp_ne (C : Ctx p Z s m meth c bs own maxL ret) (X : Stand p l e R s m args below meth c T locs cells slots) {pc : Nat} {ls : Array Slot} {st : List Value} {x y : Int32} {o : Int} (hd : decode bs pc = .ok (.if_icmp .ne o, 3)) (pcT pcN : Nat) (hyes : ¬ x = y → Goes p.tables e below G (T.setTop (mkF m pcT ls st))) (hno : x = y → Goes p.tables e below G (T.setTop (mkF m pcN ls st))) (ho : 0 ≤ (pc : Int) + o := by decide) (hp : ((pc : Int) + o).toNat = pcT := by decide) (hq : pc + 3 = pcN := by rfl) : Goes p.tables e below G (T.setTop (mkF m pc ls (.int y :: .int x :: st))) := by
  subst hq
  by_cases q : x = y
  · exact Goes.on (fun _ k => XS.icmpNo X.here C.1 rfl (hb C.2.2.1 hd) rfl (teq q).2 k) (hno q)
  · exact Goes.on (fun _ k => XS.icmpYes X.here C.1 rfl (pc0 := pc) (pc' := pcT) rfl (hb C.2.2.1 hd) rfl (feq q).2 ho hp k) (hyes q)
theorem g_if_ne (C : Ctx p Z s m meth c bs own maxL ret) (X : Stand p l e R s m args below meth c T locs cells slots) {pc : Nat} {ls : Array Slot} {st : List Value} {x : Int32} {o : Int} (hd : decode bs pc = .ok (.ifCond .ne o, 3)) (pcT pcN : Nat) (hyes : ¬ x = (0 : Int32) → Goes p.tables e below G (T.setTop (mkF m pcT ls st))) (hno : x = (0 : Int32) → Goes p.tables e below G (T.setTop (mkF m pcN ls st))) (ho : 0 ≤ (pc : Int) + o := by decide) (hp : ((pc : Int) + o).toNat = pcT := by decide) (hq : pc + 3 = pcN := by rfl) : Goes p.tables e below G (T.setTop (mkF m pc ls (.int x :: st))) := by
  subst hq
  by_cases q : x = (0 : Int32)
  · exact Goes.on (fun _ k => XS.ifNo X.here C.1 rfl (hb C.2.2.1 hd) rfl ((if0 _ _).trans (teq q).2) k) (hno q)
  · exact Goes.on (fun _ k => XS.ifYes X.here C.1 rfl (pc0 := pc) (pc' := pcT) rfl (hb C.2.2.1 hd) rfl ((if0 _ _).trans (feq q).2) ho hp k) (hyes q)
theorem g_icmp_lt (C : Ctx p Z s m meth c bs own maxL ret) (X : Stand p l e R s m args below meth c T locs cells slots) {pc : Nat} {ls : Array Slot} {st : List Value} {x y : Int32} {o : Int} (hd : decode bs pc = .ok (.if_icmp .lt o, 3)) (pcT pcN : Nat) (hyes : x < y → Goes p.tables e below G (T.setTop (mkF m pcT ls st))) (hno : ¬ x < y → Goes p.tables e below G (T.setTop (mkF m pcN ls st))) (ho : 0 ≤ (pc : Int) + o := by decide) (hp : ((pc : Int) + o).toNat = pcT := by decide) (hq : pc + 3 = pcN := by rfl) : Goes p.tables e below G (T.setTop (mkF m pc ls (.int y :: .int x :: st))) := by
  subst hq
  by_cases q : x < y
  · exact Goes.on (fun _ k => XS.icmpYes X.here C.1 rfl (pc0 := pc) (pc' := pcT) rfl (hb C.2.2.1 hd) rfl (tlt q).1 ho hp k) (hyes q)
  · exact Goes.on (fun _ k => XS.icmpNo X.here C.1 rfl (hb C.2.2.1 hd) rfl (flt q).1 k) (hno q)
theorem g_if_lt (C : Ctx p Z s m meth c bs own maxL ret) (X : Stand p l e R s m args below meth c T locs cells slots) {pc : Nat} {ls : Array Slot} {st : List Value} {x : Int32} {o : Int} (hd : decode bs pc = .ok (.ifCond .lt o, 3)) (pcT pcN : Nat) (hyes : x < (0 : Int32) → Goes p.tables e below G (T.setTop (mkF m pcT ls st))) (hno : ¬ x < (0 : Int32) → Goes p.tables e below G (T.setTop (mkF m pcN ls st))) (ho : 0 ≤ (pc : Int) + o := by decide) (hp : ((pc : Int) + o).toNat = pcT := by decide) (hq : pc + 3 = pcN := by rfl) : Goes p.tables e below G (T.setTop (mkF m pc ls (.int x :: st))) := by
  subst hq
  by_cases q : x < (0 : Int32)
  · exact Goes.on (fun _ k => XS.ifYes X.here C.1 rfl (pc0 := pc) (pc' := pcT) rfl (hb C.2.2.1 hd) rfl ((if0 _ _).trans (tlt q).1) ho hp k) (hyes q)
  · exact Goes.on (fun _ k => XS.ifNo X.here C.1 rfl (hb C.2.2.1 hd) rfl ((if0 _ _).trans (flt q).1) k) (hno q)
theorem g_icmp_ge (C : Ctx p Z s m meth c bs own maxL ret) (X : Stand p l e R s m args below meth c T locs cells slots) {pc : Nat} {ls : Array Slot} {st : List Value} {x y : Int32} {o : Int} (hd : decode bs pc = .ok (.if_icmp .ge o, 3)) (pcT pcN : Nat) (hyes : ¬ x < y → Goes p.tables e below G (T.setTop (mkF m pcT ls st))) (hno : x < y → Goes p.tables e below G (T.setTop (mkF m pcN ls st))) (ho : 0 ≤ (pc : Int) + o := by decide) (hp : ((pc : Int) + o).toNat = pcT := by decide) (hq : pc + 3 = pcN := by rfl) : Goes p.tables e below G (T.setTop (mkF m pc ls (.int y :: .int x :: st))) := by
  subst hq
  by_cases q : x < y
  · exact Goes.on (fun _ k => XS.icmpNo X.here C.1 rfl (hb C.2.2.1 hd) rfl (tlt q).2.1 k) (hno q)
  · exact Goes.on (fun _ k => XS.icmpYes X.here C.1 rfl (pc0 := pc) (pc' := pcT) rfl (hb C.2.2.1 hd) rfl (flt q).2.1 ho hp k) (hyes q)
theorem g_icmp_gt (C : Ctx p Z s m meth c bs own maxL ret) (X : Stand p l e R s m args below meth c T locs cells slots) {pc : Nat} {ls : Array Slot} {st : List Value} {x y : Int32} {o : Int} (hd : decode bs pc = .ok (.if_icmp .gt o, 3)) (pcT pcN : Nat) (hyes : y < x → Goes p.tables e below G (T.setTop (mkF m pcT ls st))) (hno : ¬ y < x → Goes p.tables e below G (T.setTop (mkF m pcN ls st))) (ho : 0 ≤ (pc : Int) + o := by decide) (hp : ((pc : Int) + o).toNat = pcT := by decide) (hq : pc + 3 = pcN := by rfl) : Goes p.tables e below G (T.setTop (mkF m pc ls (.int y :: .int x :: st))) := by
  subst hq
  by_cases q : y < x
  · exact Goes.on (fun _ k => XS.icmpYes X.here C.1 rfl (pc0 := pc) (pc' := pcT) rfl (hb C.2.2.1 hd) rfl (tlt q).2.2.1 ho hp k) (hyes q)
  · exact Goes.on (fun _ k => XS.icmpNo X.here C.1 rfl (hb C.2.2.1 hd) rfl (flt q).2.2.1 k) (hno q)
theorem g_icmp_le (C : Ctx p Z s m meth c bs own maxL ret) (X : Stand p l e R s m args below meth c T locs cells slots) {pc : Nat} {ls : Array Slot} {st : List Value} {x y : Int32} {o : Int} (hd : decode bs pc = .ok (.if_icmp .le o, 3)) (pcT pcN : Nat) (hyes : ¬ y < x → Goes p.tables e below G (T.setTop (mkF m pcT ls st))) (hno : y < x → Goes p.tables e below G (T.setTop (mkF m pcN ls st))) (ho : 0 ≤ (pc : Int) + o := by decide) (hp : ((pc : Int) + o).toNat = pcT := by decide) (hq : pc + 3 = pcN := by rfl) : Goes p.tables e below G (T.setTop (mkF m pc ls (.int y :: .int x :: st))) := by
  subst hq
  by_cases q : y < x
  · exact Goes.on (fun _ k => XS.icmpNo X.here C.1 rfl (hb C.2.2.1 hd) rfl (tlt q).2.2.2 k) (hno q)
  · exact Goes.on (fun _ k => XS.icmpYes X.here C.1 rfl (pc0 := pc) (pc' := pcT) rfl (hb C.2.2.1 hd) rfl (flt q).2.2.2 ho hp k) (hyes q)
theorem g_if_le (C : Ctx p Z s m meth c bs own maxL ret) (X : Stand p l e R s m args below meth c T locs cells slots) {pc : Nat} {ls : Array Slot} {st : List Value} {x : Int32} {o : Int} (hd : decode bs pc = .ok (.ifCond .le o, 3)) (pcT pcN : Nat) (hyes : ¬ (0 : Int32) < x → Goes p.tables e below G (T.setTop (mkF m pcT ls st))) (hno : (0 : Int32) < x → Goes p.tables e below G (T.setTop (mkF m pcN ls st))) (ho : 0 ≤ (pc : Int) + o := by decide) (hp : ((pc : Int) + o).toNat = pcT := by decide) (hq : pc + 3 = pcN := by rfl) : Goes p.tables e below G (T.setTop (mkF m pc ls (.int x :: st))) := by
  subst hq
  by_cases q : (0 : Int32) < x
  · exact Goes.on (fun _ k => XS.ifNo X.here C.1 rfl (hb C.2.2.1 hd) rfl ((if0 _ _).trans (tlt q).2.2.2) k) (hno q)
  · exact Goes.on (fun _ k => XS.ifYes X.here C.1 rfl (pc0 := pc) (pc' := pcT) rfl (hb C.2.2.1 hd) rfl ((if0 _ _).trans (flt q).2.2.2) ho hp k) (hyes q)
theorem g_ldc (C : Ctx p Z s m meth c bs own maxL ret) (X : Stand p l e R s m args below meth c T locs cells slots) {pc : Nat} {ls : Array Slot} {st : List Value} {i : Nat} {v : Int32} (w : (Cond.constant own i v).before a0 Z = true) (hd : decode bs pc = .ok (.ldc i, 2)) (pc' : Nat) (k : Goes p.tables e below G (T.setTop (mkF m pc' ls (.int v :: st)))) (hp : pc + 2 = pc' := by rfl) : Goes p.tables e below G (T.setTop (mkF m pc ls st)) := by
  subst hp
  exact Goes.on (fun _ k => X.ldcInt C.1 C.2.2.2.2.1 (mvT C.2.1 w) (g := mkF m pc ls st) rfl (hb C.2.2.1 hd) _ k) k
theorem g_retN {t : FieldType} (C : Ctx p Z s m meth c bs own maxL (some t)) (X : Stand p l e R s m args below meth c T locs cells slots) {Q : Option Value → Heap → List Loc → Prop} (K : ∀ (v : Option Value) (L : List Loc) (T' : State), Q v T'.heap L → s.WarmedH T'.vm → s.sameButNew ({ T' with vm := s.vm } : State) L R.cells R.slots → G (.returned v) T') {pc : Nat} {ls : Array Slot} {rest : List Value} {z : Int32} (ht : t = .boolean ∨ t = .byte ∨ t = .char ∨ t = .short) (hd : decode bs pc = .ok (.ireturn, 1)) (hc : cells ≤ R.cells) (hs : slots ≤ R.slots) (eT : T.heap = h) (hQ : Q (some (.int (nar t z))) h locs) : Goes p.tables e below G (T.setTop (mkF m pc ls (.int z :: rest))) := by
  have hlk : meth.locks = false := C.2.2.2.2.2.2
  obtain ⟨fs, hr, hrun, hended, hW, hsame⟩ := X.leave (v := some (.int (nar t z))) (fun q => by rw [C.2.2.2.2.2.1] at q; cases q) hlk
  refine ⟨_, _, ?_, hrun, hended, K _ locs _ (by show Q _ T.heap locs; rw [eT]; exact hQ) hW (hsame.mono hc hs)⟩
  exact retN X C.1 C.2.2.2.2.2.1 ht (hb C.2.2.1 hd) hr
theorem g_retI (C : Ctx p Z s m meth c bs own maxL (some .int)) (X : Stand p l e R s m args below meth c T locs cells slots) {Q : Option Value → Heap → List Loc → Prop} (K : ∀ (v : Option Value) (L : List Loc) (T' : State), Q v T'.heap L → s.WarmedH T'.vm → s.sameButNew ({ T' with vm := s.vm } : State) L R.cells R.slots → G (.returned v) T') {pc : Nat} {ls : Array Slot} {rest : List Value} {z : Int32} (hd : decode bs pc = .ok (.ireturn, 1)) (hc : cells ≤ R.cells) (hs : slots ≤ R.slots) (eT : T.heap = h) (hQ : Q (some (.int z)) h locs) : Goes p.tables e below G (T.setTop (mkF m pc ls (.int z :: rest))) := by
  have hlk : meth.locks = false := C.2.2.2.2.2.2
  obtain ⟨fs, hr, hrun, hended, hW, hsame⟩ := X.leave (v := some (.int z)) (fun q => by rw [C.2.2.2.2.2.1] at q; cases q) hlk
  refine ⟨_, _, ?_, hrun, hended, K _ locs _ (by show Q _ T.heap locs; rw [eT]; exact hQ) hW (hsame.mono hc hs)⟩
  exact retOut X C.1 (w := .int z) (i := .ireturn) C.2.2.2.2.2.1 rfl (Or.inl ⟨rfl, Or.inl rfl, z, rfl⟩) (hb C.2.2.1 hd) hr
theorem g_retA {t : FieldType} (C : Ctx p Z s m meth c bs own maxL (some t)) (X : Stand p l e R s m args below meth c T locs cells slots) {Q : Option Value → Heap → List Loc → Prop} (K : ∀ (v : Option Value) (L : List Loc) (T' : State), Q v T'.heap L → s.WarmedH T'.vm → s.sameButNew ({ T' with vm := s.vm } : State) L R.cells R.slots → G (.returned v) T') {pc : Nat} {ls : Array Slot} {rest : List Value} {w : Value} (ht : t.isReference = true) (hn : narrow t w = w) (hw : w.isRef = true) (hd : decode bs pc = .ok (.areturn, 1)) (hc : cells ≤ R.cells) (hs : slots ≤ R.slots) (eT : T.heap = h) (hQ : Q (some w) h locs) : Goes p.tables e below G (T.setTop (mkF m pc ls (w :: rest))) := by
  have hlk : meth.locks = false := C.2.2.2.2.2.2
  obtain ⟨fs, hr, hrun, hended, hW, hsame⟩ := X.leave (v := some w) (fun q => by rw [C.2.2.2.2.2.1] at q; cases q) hlk
  refine ⟨_, _, ?_, hrun, hended, K _ locs _ (by show Q _ T.heap locs; rw [eT]; exact hQ) hW (hsame.mono hc hs)⟩
  exact retOut X C.1 (w := w) (i := .areturn) C.2.2.2.2.2.1 hn (Or.inr (Or.inr (Or.inr (Or.inr ⟨rfl, ht, hw⟩)))) (hb C.2.2.1 hd) hr
theorem g_retV (C : Ctx p Z s m meth c bs own maxL (none)) (X : Stand p l e R s m args below meth c T locs cells slots) {Q : Option Value → Heap → List Loc → Prop} (K : ∀ (v : Option Value) (L : List Loc) (T' : State), Q v T'.heap L → s.WarmedH T'.vm → s.sameButNew ({ T' with vm := s.vm } : State) L R.cells R.slots → G (.returned v) T') {pc : Nat} {ls : Array Slot}  (hd : decode bs pc = .ok (.return_, 1)) (hc : cells ≤ R.cells) (hs : slots ≤ R.slots) (eT : T.heap = h) (hQ : Q (none) h locs) : Goes p.tables e below G (T.setTop (mkF m pc ls [])) := by
  have hlk : meth.locks = false := C.2.2.2.2.2.2
  obtain ⟨fs, hr, hrun, hended, hW, hsame⟩ := X.leave (v := none) (fun _ => rfl) hlk
  refine ⟨_, _, ?_, hrun, hended, K _ locs _ (by show Q _ T.heap locs; rw [eT]; exact hQ) hW (hsame.mono hc hs)⟩
  exact X.returnOut C.1 C.2.2.2.2.2.1 (hb C.2.2.1 hd) hr
theorem g_getF (C : Ctx p Z s m meth c bs own maxL ret) (X : Stand p l e R s m args below meth c T locs cells slots) {pc : Nat} {ls : Array Slot} {st : List Value} {R0 O n d : String} {index : Nat} {a : Addr} {v : Value} (w : (Cond.fieldLink own index R0 n d).before a0 Z = true) (via : Via Z R0 O n d) (eT : T.heap = h) (F : Fld Z h a O n d v) (hd : decode bs pc = .ok (.getfield index, 3)) (pc' : Nat) (k : ∀ T' : State, Stand p l e R s m args below meth c T' locs cells slots → T'.heap = h → Goes p.tables e below G (T'.setTop (mkF m pc' ls (v :: st)))) (hp : pc + 3 = pc' := by rfl) : Goes p.tables e below G (T.setTop (mkF m pc ls (.ref a :: st))) := by
  subst hp
  obtain ⟨T', X', e', st'⟩ := getF X C.1 C.2.1 C.2.2.2.2.1 (host := "") (Or.inl w) via eT F (g := mkF m pc ls (.ref a :: st)) rfl rfl (hb C.2.2.1 hd)
  exact Goes.on (fun t k => st' t k) (k T' X' e')
theorem g_getS (C : Ctx p Z s m meth c bs own maxL ret) (X : Stand p l e R s m args below meth c T locs cells slots) {pc : Nat} {ls : Array Slot} {st : List Value} {R0 O n d : String} {index : Nat} {v : Value} (w : (Cond.fieldLink own index R0 n d).before a0 Z = true) (via : Via Z R0 O n d) (eT : T.heap = h) (F : Sta Z h O n d v) (hd : decode bs pc = .ok (.getstatic index, 3)) (pc' : Nat) (k : ∀ T' : State, Stand p l e R s m args below meth c T' locs cells slots → T'.heap = h → Goes p.tables e below G (T'.setTop (mkF m pc' ls (v :: st)))) (hp : pc + 3 = pc' := by rfl) : Goes p.tables e below G (T.setTop (mkF m pc ls st)) := by
  subst hp
  obtain ⟨T', X', e', st'⟩ := getS2 X C.1 C.2.1 C.2.2.2.2.1 (host := "") (Or.inl w) via eT F (g := mkF m pc ls st) rfl (hb C.2.2.1 hd)
  exact Goes.on (fun t k => st' t k) (k T' X' e')
theorem g_putF (C : Ctx p Z s m meth c bs own maxL ret) (X : Stand p l e R s m args below meth c T locs cells slots) {pc : Nat} {ls : Array Slot} {st : List Value} {R0 O n d K : String} {index kk : Nat} {ty : FieldType} {a : Addr} {v old : Value} (w : (Cond.fieldLink own index R0 n d).before a0 Z = true) (via : Via Z R0 O n d) (eT : T.heap = h) (F : Fld Z h a O n d old) (E : Exa Z h a K) (L : (Cond.lays K O n d).before a0 Z = true ∨ ((Cond.laysFinal K O n d).before a0 Z = true ∧ own = O ∧ meth.name = "<init>")) (wi : (Cond.instantiable K kk).before a0 Z = true) (hty : parseFieldDescriptor d = some ty) (hn : narrow ty v = v) (hf : fits ty v = true) (hd : decode bs pc = .ok (.putfield index, 3)) (pc' : Nat) (k : ∀ (T' : State) (h' : Heap), Stand p l e R s m args below meth c T' (locs ++ [⟨a, Jvm.RoadKit.slotOf Z O n d⟩]) cells slots → T'.heap = h' → Wr h h' a (Jvm.RoadKit.slotOf Z O n d) v → Goes p.tables e below G (T'.setTop (mkF m pc' ls st))) (hp : pc + 3 = pc' := by rfl) : Goes p.tables e below G (T.setTop (mkF m pc ls (v :: .ref a :: st))) := by
  subst hp
  obtain ⟨T', h', X', e', W', st'⟩ := putF X C.1 C.2.1 C.2.2.2.2.1 (host := "") (Or.inl w) via eT F E L wi hty hn hf (g := mkF m pc ls (v :: .ref a :: st)) rfl rfl (hb C.2.2.1 hd)
  exact Goes.on (fun t k => st' t k) (k T' h' X' e' W')
theorem g_putFN (C : Ctx p Z s m meth c bs own maxL ret) (X : Stand p l e R s m args below meth c T locs cells slots) {pc : Nat} {ls : Array Slot} {st : List Value} {R0 O n d K : String} {index kk : Nat} {ty : FieldType} {a : Addr} {v old v' : Value} (w : (Cond.fieldLink own index R0 n d).before a0 Z = true) (via : Via Z R0 O n d) (eT : T.heap = h) (F : Fld Z h a O n d old) (E : Exa Z h a K) (L : (Cond.lays K O n d).before a0 Z = true ∨ ((Cond.laysFinal K O n d).before a0 Z = true ∧ own = O ∧ meth.name = "<init>")) (wi : (Cond.instantiable K kk).before a0 Z = true) (hty : parseFieldDescriptor d = some ty) (hn : narrow ty v = v') (hf : fits ty v' = true) (hd : decode bs pc = .ok (.putfield index, 3)) (pc' : Nat) (k : ∀ (T' : State) (h' : Heap), Stand p l e R s m args below meth c T' (locs ++ [⟨a, Jvm.RoadKit.slotOf Z O n d⟩]) cells slots → T'.heap = h' → Wr h h' a (Jvm.RoadKit.slotOf Z O n d) v' → Goes p.tables e below G (T'.setTop (mkF m pc' ls st))) (hp : pc + 3 = pc' := by rfl) : Goes p.tables e below G (T.setTop (mkF m pc ls (v :: .ref a :: st))) := by
  subst hp
  obtain ⟨T', h', X', e', W', st'⟩ := putFN X C.1 C.2.1 C.2.2.2.2.1 w via eT F E L wi hty hn hf (g := mkF m pc ls (v :: .ref a :: st)) rfl rfl (hb C.2.2.1 hd)
  exact Goes.on (fun t k => st' t k) (k T' h' X' e' W')
theorem g_new (C : Ctx p Z s m meth c bs own maxL ret) (X : Stand p l e R s m args below meth c T locs cells slots) {pc : Nat} {ls : Array Slot} {st : List Value} {K : String} {index n : Nat} (w : (Cond.classLink own index K).before a0 Z = true) (wi : (Cond.instantiable K n).before a0 Z = true) (wz : (Cond.initialized K).before a0 Z = true) (eT : T.heap = h) (hd : decode bs pc = .ok (.new index, 3)) (pc' : Nat) (hc : cells + 1 ≤ R.cells) (hs : slots + n ≤ R.slots) (k : ∀ (T' : State) (h' : Heap) (b : Addr), Stand p l e R s m args below meth c T' locs (cells + 1) (slots + n) → T'.heap = h' → b = h.size → Ext h h' → Exa Z h' b K → (∀ {O nm d : String} {ty : FieldType}, Laid Z a0 K O nm d → parseFieldDescriptor d = some ty → Fld Z h' b O nm d (defaultValue ty)) → Goes p.tables e below G (T'.setTop (mkF m pc' ls (.ref b :: st)))) (hp : pc + 3 = pc' := by rfl) : Goes p.tables e below G (T.setTop (mkF m pc ls st)) := by
  subst hp
  obtain ⟨T', h', X', e', E', A', D', -, st'⟩ := newO X C.1 C.2.1 C.2.2.2.2.1 w wi wz eT (g := mkF m pc ls st) rfl (hb C.2.2.1 hd) hc hs
  exact Goes.on (fun t k => st' t k) (k T' h' h.size X' e' rfl E' A' D')
theorem g_initO (C : Ctx p Z s m meth c bs own maxL ret) (X : Stand p l e R s m args below meth c T locs cells slots) {pc : Nat} {ls : Array Slot} {st : List Value} {idx : Nat} {a : Addr} (w1 : (Cond.methodLink own idx Lib.objectInit).before a0 Z = true) (w2 : (Cond.instanceMethod Lib.objectInit).before a0 Z = true) (w3 : (Cond.code Lib.objectInit ⟨#[0xb1]⟩ 1 none).before a0 Z = true) (eT : T.heap = h) (hls : ls.size = maxL) (hd : decode bs pc = .ok (.invokespecial idx, 3)) (pc' : Nat) (hf : 1 ≤ R.frames) {W : Nat} (hW : (st.map fun v => v.category).sum ≤ W) (hl : W + 12 ≤ R.locals) (k : ∀ T' : State, Stand p l e R s m args below meth c T' locs cells slots → T'.heap = h → Goes p.tables e below G (T'.setTop (mkF m pc' ls st))) (hp : pc + 3 = pc' := by rfl) : Goes p.tables e below G (T.setTop (mkF m pc ls (.ref a :: st))) := by
  subst hp
  obtain ⟨T', X', e', st'⟩ := initO X C.1 C.2.1 C.2.2.2.2.1 w1 w2 w3 eT (g := mkF m pc ls (.ref a :: st)) rfl (by rw [C.2.2.2.1]; exact hls) rfl (hb C.2.2.1 hd) hf (W := W) (by show 2 * 0 + _ ≤ _; omega) hl
  exact Goes.on (fun t k => st' t k) (k T' X' e')
theorem g_callS (C : Ctx p Z s m meth c bs own maxL ret) (X : Stand p l e R s m args below meth c T locs cells slots) {pc : Nat} {ls : Array Slot} {y : MethodName} {index : Nat} {bytes : ByteArray} {maxY : Nat} {retY : Option FieldType} {rm : Room} {Q : Option Value → Heap → List Loc → Prop} {ps : List FieldType} {rr : Option FieldType} {stk : List Value} (w1 : (Cond.methodLink own index y).before a0 Z = true) (w2 : (Cond.static y).before a0 Z = true) (w3 : (Cond.initialized y.cls).before a0 Z = true) (w4 : (Cond.code y bytes maxY retY).before a0 Z = true) (hd : decode bs pc = .ok (.invokestatic index, 3)) (argsL rest : List Value) (W : Nat) (hM : MetFree l y (head1 [Cond.code y bytes maxY retY] rm) (fun a' U => a' = argsL.toArray ∧ Z.Warmed39 U.vm ∧ U.heap = h) (fun _ _ _ _ _ => True) (fun _ U o U' => ∃ v L, o = .returned v ∧ Q v U'.heap L ∧ FrameEnd U o U' L rm.cells rm.slots)) (hpd : parseMethodDescriptor y.desc = some ⟨ps, rr⟩) (eT : T.heap = h) (pc' : Nat) (k : ∀ (v : Option Value) (T' : State) (L : List Loc), Stand p l e R s m args below meth c T' (locs ++ L) (cells + rm.cells) (slots + rm.slots) → Q v T'.heap L → Goes p.tables e below G (T'.setTop (mkF m pc' ls (v.toList ++ rest)))) (hy : y.cls ≠ "java/lang/invoke/MethodHandle" ∧ y.cls ≠ "java/lang/invoke/VarHandle" := by decide) (hf : rm.frames + 1 ≤ R.frames := by decide) (hl : W + (maxY + 11) + rm.locals ≤ R.locals := by decide) (hls : ls.size = maxL := by rfl) (hlen : argsL.length = ps.length := by rfl) (hst : stk = argsL.reverse ++ rest := by rfl) (hW : (rest.map fun v => v.category).sum ≤ W := by exact Nat.le_of_eq rfl) (hc : cells + rm.cells ≤ R.cells := by decide) (hs : slots + rm.slots ≤ R.slots := by decide) (hp : pc + 3 = pc' := by rfl) : Goes p.tables e below G (T.setTop (mkF m pc ls stk)) := by
  subst hp hst
  obtain ⟨v, _, ⟨T', L', k', n'⟩, -, X', ⟨L, hQ, l1, l2, l3⟩, st'⟩ := Jvm.LawKit.callS X C.1 (y := y) C.2.2.2.2.1 (mvT C.2.1 w1) (mvT C.2.1 w2) (mvT C.2.1 w3) (mvT C.2.1 w4) hy (backOf (W := W) hM C.2.1 w4 w3 hf hl) (g := mkF m pc ls (argsL.reverse ++ rest)) rfl (by rw [C.2.2.2.1]; exact hls) (argsL := argsL) (rest := rest) (lenOf hpd hlen) rfl (by show 2 * 0 + _ ≤ _; omega) (hb C.2.2.1 hd) (fun _ _ => ⟨rfl, eT, hc, hs⟩)
  dsimp only [Pt.U, Pt.locs, Pt.cells, Pt.slots] at X' l1 l2 l3 st' hQ
  subst l1 l2 l3
  exact Goes.on (fun t k => st' t k) (k v T' L X' hQ)
theorem g_callI (C : Ctx p Z s m meth c bs own maxL ret) (X : Stand p l e R s m args below meth c T locs cells slots) {pc : Nat} {ls : Array Slot} {a : Addr} {y : MethodName} {index : Nat} {bytes : ByteArray} {maxY : Nat} {rm : Room} {Q : Option Value → Heap → List Loc → Prop} {ps : List FieldType} {rr : Option FieldType} {stk : List Value} (hn : y.name = "<init>") (w1 : (Cond.methodLink own index y).before a0 Z = true) (w2 : (Cond.instanceMethod y).before a0 Z = true) (w3 : (Cond.initialized y.cls).before a0 Z = true) (w4 : (Cond.code y bytes maxY none).before a0 Z = true) (hd : decode bs pc = .ok (.invokespecial index, 3)) (argsL rest : List Value) (W : Nat) (hM : MetFree l y (head1 [Cond.code y bytes maxY none] rm) (fun a' U => a' = (.ref a :: argsL).toArray ∧ Z.Warmed39 U.vm ∧ U.heap = h) (fun _ _ _ _ _ => True) (fun _ U o U' => ∃ v L, o = .returned v ∧ Q v U'.heap L ∧ FrameEnd U o U' L rm.cells rm.slots)) (hpd : parseMethodDescriptor y.desc = some ⟨ps, rr⟩) (eT : T.heap = h) (pc' : Nat) (k : ∀ (v : Option Value) (T' : State) (L : List Loc), Stand p l e R s m args below meth c T' (locs ++ L) (cells + rm.cells) (slots + rm.slots) → Q v T'.heap L → Goes p.tables e below G (T'.setTop (mkF m pc' ls (v.toList ++ rest)))) (hy : y.cls ≠ "java/lang/invoke/MethodHandle" ∧ y.cls ≠ "java/lang/invoke/VarHandle" := by decide) (hf : rm.frames + 1 ≤ R.frames := by decide) (hl : W + (maxY + 11) + rm.locals ≤ R.locals := by decide) (hls : ls.size = maxL := by rfl) (hlen : argsL.length = ps.length := by rfl) (hst : stk = argsL.reverse ++ .ref a :: rest := by rfl) (hW : (rest.map fun v => v.category).sum ≤ W := by exact Nat.le_of_eq rfl) (hc : cells + rm.cells ≤ R.cells := by decide) (hs : slots + rm.slots ≤ R.slots := by decide) (hp : pc + 3 = pc' := by rfl) : Goes p.tables e below G (T.setTop (mkF m pc ls stk)) := by
  subst hp hst
  obtain ⟨v, _, ⟨T', L', k', n'⟩, -, X', ⟨L, hQ, l1, l2, l3⟩, st'⟩ := X.specialBack C.1 (y := y) hn C.2.2.2.2.1 (mvT C.2.1 w1) (mvT C.2.1 w2) (mvT C.2.1 w4) hy (backOf (W := W) hM C.2.1 w4 w3 hf hl) (g := mkF m pc ls (argsL.reverse ++ .ref a :: rest)) rfl (by rw [C.2.2.2.1]; exact hls) (Steps.refl _) (a := a) (argsL := argsL) (rest := rest) (lenOf hpd hlen) rfl (by show 2 * 0 + _ ≤ _; omega) (hb C.2.2.1 hd) (fun _ _ => ⟨rfl, eT, hc, hs⟩)
  dsimp only [Pt.U, Pt.locs, Pt.cells, Pt.slots] at X' l1 l2 l3 st' hQ
  subst l1 l2 l3
  exact Goes.on (fun t k => st'.trans k) (k v T' L X' hQ)
theorem g_callV (C : Ctx p Z s m meth c bs own maxL ret) (X : Stand p l e R s m args below meth c T locs cells slots) {pc : Nat} {ls : Array Slot} {a : Addr} {K : String} {y z : MethodName} {index : Nat} {bytes : ByteArray} {maxY : Nat} {retY : Option FieldType} {rm : Room} {Q : Option Value → Heap → List Loc → Prop} {ps : List FieldType} {rr : Option FieldType} {stk : List Value} (w1 : (Cond.methodLink own index y).before a0 Z = true) (w2 : (Cond.declares y).before a0 Z = true) (hnf : NotFace s y) (w3 : (Cond.selects K y z).before a0 Z = true) (w4 : (Cond.instanceMethod z).before a0 Z = true) (w5 : (Cond.code z bytes maxY retY).before a0 Z = true) (w6 : (Cond.initialized z.cls).before a0 Z = true) (E : Exa Z h a K) (hd : decode bs pc = .ok (.invokevirtual index, 3)) (argsL rest : List Value) (W : Nat) (hM : MetFree l z (head1 [Cond.code z bytes maxY retY] rm) (fun a' U => a' = (.ref a :: argsL).toArray ∧ Z.Warmed39 U.vm ∧ U.heap = h) (fun _ _ _ _ _ => True) (fun _ U o U' => ∃ v L, o = .returned v ∧ Q v U'.heap L ∧ FrameEnd U o U' L rm.cells rm.slots)) (hpd : parseMethodDescriptor y.desc = some ⟨ps, rr⟩) (eT : T.heap = h) (pc' : Nat) (k : ∀ (v : Option Value) (T' : State) (L : List Loc), Stand p l e R s m args below meth c T' (locs ++ L) (cells + rm.cells) (slots + rm.slots) → Q v T'.heap L → Goes p.tables e below G (T'.setTop (mkF m pc' ls (v.toList ++ rest)))) (hy : y.cls ≠ "java/lang/invoke/MethodHandle" ∧ y.cls ≠ "java/lang/invoke/VarHandle" := by decide) (hf : rm.frames + 1 ≤ R.frames := by decide) (hl : W + (maxY + 11) + rm.locals ≤ R.locals := by decide) (hls : ls.size = maxL := by rfl) (hlen : argsL.length = ps.length := by rfl) (hst : stk = argsL.reverse ++ .ref a :: rest := by rfl) (hW : (rest.map fun v => v.category).sum ≤ W := by exact Nat.le_of_eq rfl) (hc : cells + rm.cells ≤ R.cells := by decide) (hs : slots + rm.slots ≤ R.slots := by decide) (hp : pc + 3 = pc' := by rfl) : Goes p.tables e below G (T.setTop (mkF m pc ls stk)) := by
  subst hp hst
  obtain ⟨cq, kq, qa, qb, qc⟩ := isOf C.2.1 eT E
  obtain ⟨v, _, ⟨T', L', k', n'⟩, -, X', ⟨L, hQ, l1, l2, l3⟩, st'⟩ := X.virtualBack C.1 (y := y) (z := z) C.2.2.2.2.1 (mvT C.2.1 w1) (mvT C.2.1 w2) hnf (mvT C.2.1 w3) (mvT C.2.1 w4) hy (backOf (W := W) hM C.2.1 w5 w6 hf hl) qa qc (g := mkF m pc ls (argsL.reverse ++ .ref a :: rest)) rfl (by rw [C.2.2.2.1]; exact hls) (Steps.refl _) (argsL := argsL) (rest := rest) (lenOf hpd hlen) rfl (by show 2 * 0 + _ ≤ _; omega) (hb C.2.2.1 hd) (fun _ _ => ⟨rfl, eT, hc, hs⟩)
  dsimp only [Pt.U, Pt.locs, Pt.cells, Pt.slots] at X' l1 l2 l3 st' hQ
  subst l1 l2 l3
  exact Goes.on (fun t k => st'.trans k) (k v T' L X' hQ)
theorem g_ifnullN (C : Ctx p Z s m meth c bs own maxL ret) (X : Stand p l e R s m args below meth c T locs cells slots) {pc : Nat} {ls : Array Slot} {st : List Value} {b : Addr} {o : Int} (hd : decode bs pc = .ok (.ifnull o, 3)) (pc' : Nat) (k : Goes p.tables e below G (T.setTop (mkF m pc' ls st))) (hp : pc + 3 = pc' := by rfl) : Goes p.tables e below G (T.setTop (mkF m pc ls (.ref b :: st))) := by
  subst hp
  exact Goes.on (fun _ k => XS.ifnullNo X.here C.1 rfl (hb C.2.2.1 hd) rfl k) k
theorem Exa.ns {x : Addr} {K : String} (E : Exa Z h x K) : ∀ cell : Cell, h[x]? = some cell → cell.vm.isStatics = false := by
  obtain ⟨c1, k1, h1, -, -, h4, -⟩ := E
  intro cell q
  cases h1.symm.trans q; exact h4
theorem Sta.keepN {h' : Heap} {K n d : String} {w : Value} {ws : List Addr} (F : Sta Z h K n d w) (Kp : Keep h h' ws) (q : ∀ x ∈ ws, ∀ cell : Cell, h[x]? = some cell → cell.vm.isStatics = false) : Sta Z h' K n d w := by
  obtain ⟨cf, i, k, f, st, cell, h1, h2, h3, h4, h5, h6, h7⟩ := F
  refine ⟨cf, i, k, f, st, cell, h1, h2, h3, h4, Kp.2.1 st cell h5 (fun r => ?_), h6, h7⟩
  have z := q st r cell h5
  rw [z] at h6; cases h6
theorem g_newA (C : Ctx p Z s m meth c bs own maxL ret) (X : Stand p l e R s m args below meth c T locs cells slots) {pc : Nat} {ls : Array Slot} {st : List Value} {aty : ArrayType} {n : Int32} {cap : Nat} (w : (Cond.arrayClass (newarray.typeOf aty)).before a0 Z = true) (eT : T.heap = h) (hd : decode bs pc = .ok (.newarray aty, 2)) (pc' : Nat) (hn : ¬ n < 0) (hcap : n.toNatClampNeg ≤ cap) (hbig : cap * 8 ≤ 536870912) (hc : cells + 1 ≤ R.cells) (hs : slots + cap ≤ R.slots) (k : ∀ (T' : State) (h' : Heap) (b : Addr) (kd : ClassId), Stand p l e R s m args below meth c T' locs (cells + 1) (slots + cap) → T'.heap = h' → b = h.size → Ext h h' → Arv Z h' b kd (newarray.typeOf aty) n [] (defaultValue (newarray.typeOf aty)) → Goes p.tables e below G (T'.setTop (mkF m pc' ls (.ref b :: st)))) (hp : pc + 2 = pc' := by rfl) : Goes p.tables e below G (T.setTop (mkF m pc ls (.int n :: st))) := by
  subst hp
  obtain ⟨T', h', kd, X', e', E', A', st'⟩ := newP X C.1 C.2.1 w eT (g := mkF m pc ls (.int n :: st)) rfl (hb C.2.2.1 hd) rfl hn hcap hbig hc hs
  exact Goes.on (fun t k => st' t k) (k T' h' h.size kd X' e' rfl E' (Arv.new A' hn))
theorem g_arraylength (C : Ctx p Z s m meth c bs own maxL ret) (X : Stand p l e R s m args below meth c T locs cells slots) {pc : Nat} {ls : Array Slot} {st : List Value} {a : Addr} {kd : ClassId} {ty : FieldType} {n : Int32} {vs : List Value} {d : Value} (eT : T.heap = h) (V : Arv Z h a kd ty n vs d) (hd : decode bs pc = .ok (.arraylength, 1)) (pc' : Nat) (k : Goes p.tables e below G (T.setTop (mkF m pc' ls (.int n :: st)))) (hp : pc + 1 = pc' := by rfl) : Goes p.tables e below G (T.setTop (mkF m pc ls (.ref a :: st))) := by
  subst hp
  obtain ⟨cl, A, q1, S, q3, -⟩ := V
  refine Goes.on (fun t k => X.arraylength C.1 (by rw [eT]; exact A.1) (State.isArrayOf_alike C.2.1.alike A.2.1) (g := mkF m pc ls (.ref a :: st)) rfl rfl (hb C.2.2.1 hd) t (by rw [len_of S q3]; exact k)) k
theorem g_castore (C : Ctx p Z s m meth c bs own maxL ret) (X : Stand p l e R s m args below meth c T locs cells slots) {pc : Nat} {ls : Array Slot} {st : List Value} {a : Addr} {kd : ClassId} {n j : Int32} {x : Int32} {vs : List Value} {d : Value} {i : Nat} (eT : T.heap = h) (V : Arv Z h a kd .char n vs d) (hj : ¬ j < 0 ∧ j < n) (hi : j.toNatClampNeg = i) (hlt : i < vs.length) (hd : decode bs pc = .ok (.castore, 1)) (pc' : Nat) (k : ∀ (T' : State) (h' : Heap), Stand p l e R s m args below meth c T' (locs ++ [⟨a, j.toNatClampNeg⟩]) cells slots → T'.heap = h' → Wr h h' a j.toNatClampNeg (.int (nar .char x)) → Arv Z h' a kd .char n (vs.set i (.int (nar .char x))) d → Goes p.tables e below G (T'.setTop (mkF m pc' ls st))) (hp : pc + 1 = pc' := by rfl) : Goes p.tables e below G (T.setTop (mkF m pc ls (.int x :: .int j :: .ref a :: st))) := by
  subst hp
  obtain ⟨cl, A, q1, S, q3, H, Gf⟩ := V
  obtain ⟨T', h', X', e', W', st'⟩ := stC X C.1 C.2.1 eT A (j := j) (inb_of S hj) (g := mkF m pc ls (.int x :: .int j :: .ref a :: st)) rfl rfl (hb C.2.2.1 hd)
  exact Goes.on (fun t k => st' t k) (k T' h' X' e' W' (Arv.set A q1 S q3 H Gf (fits_nar_char _) W' i hi hlt))
theorem g_bastore (C : Ctx p Z s m meth c bs own maxL ret) (X : Stand p l e R s m args below meth c T locs cells slots) {pc : Nat} {ls : Array Slot} {st : List Value} {a : Addr} {kd : ClassId} {n j : Int32} {x : Int32} {vs : List Value} {d : Value} {i : Nat} (eT : T.heap = h) (V : Arv Z h a kd .byte n vs d) (hj : ¬ j < 0 ∧ j < n) (hi : j.toNatClampNeg = i) (hlt : i < vs.length) (hd : decode bs pc = .ok (.bastore, 1)) (pc' : Nat) (k : ∀ (T' : State) (h' : Heap), Stand p l e R s m args below meth c T' (locs ++ [⟨a, j.toNatClampNeg⟩]) cells slots → T'.heap = h' → Wr h h' a j.toNatClampNeg (.int (nar .byte x)) → Arv Z h' a kd .byte n (vs.set i (.int (nar .byte x))) d → Goes p.tables e below G (T'.setTop (mkF m pc' ls st))) (hp : pc + 1 = pc' := by rfl) : Goes p.tables e below G (T.setTop (mkF m pc ls (.int x :: .int j :: .ref a :: st))) := by
  subst hp
  obtain ⟨cl, A, q1, S, q3, H, Gf⟩ := V
  obtain ⟨T', h', X', e', W', st'⟩ := stB X C.1 C.2.1 eT A (j := j) (inb_of S hj) (g := mkF m pc ls (.int x :: .int j :: .ref a :: st)) rfl rfl (hb C.2.2.1 hd)
  exact Goes.on (fun t k => st' t k) (k T' h' X' e' W' (Arv.set A q1 S q3 H Gf (fits_nar_byte _) W' i hi hlt))
theorem g_caload (C : Ctx p Z s m meth c bs own maxL ret) (X : Stand p l e R s m args below meth c T locs cells slots) {pc : Nat} {ls : Array Slot} {st : List Value} {a : Addr} {kd : ClassId} {n j : Int32} {vs : List Value} {d v : Value} (eT : T.heap = h) (V : Arv Z h a kd .char n vs d) (hj : ¬ j < 0 ∧ j < n) (hv : vs.getD j.toNatClampNeg d = v) (hd : decode bs pc = .ok (.caload, 1)) (pc' : Nat) (k : Goes p.tables e below G (T.setTop (mkF m pc' ls (v :: st)))) (hp : pc + 1 = pc' := by rfl) : Goes p.tables e below G (T.setTop (mkF m pc ls (.int j :: .ref a :: st))) := by
  subst hp
  obtain ⟨cl, A, q1, S, q3, H, Gf⟩ := V
  exact Goes.on (fun t k => X.caload C.1 (j := j) (v := v) (by rw [eT]; exact A.1) (State.isArrayOf_alike C.2.1.alike A.2.1) A.2.2 (inb_of S hj) (H.at (inb_of S hj) hv) (g := mkF m pc ls (.int j :: .ref a :: st)) rfl rfl (hb C.2.2.1 hd) t k) k
theorem g_baload (C : Ctx p Z s m meth c bs own maxL ret) (X : Stand p l e R s m args below meth c T locs cells slots) {pc : Nat} {ls : Array Slot} {st : List Value} {a : Addr} {kd : ClassId} {n j : Int32} {vs : List Value} {d v : Value} (eT : T.heap = h) (V : Arv Z h a kd .byte n vs d) (hj : ¬ j < 0 ∧ j < n) (hv : vs.getD j.toNatClampNeg d = v) (hd : decode bs pc = .ok (.baload, 1)) (pc' : Nat) (k : Goes p.tables e below G (T.setTop (mkF m pc' ls (v :: st)))) (hp : pc + 1 = pc' := by rfl) : Goes p.tables e below G (T.setTop (mkF m pc ls (.int j :: .ref a :: st))) := by
  subst hp
  obtain ⟨cl, A, q1, S, q3, H, Gf⟩ := V
  exact Goes.on (fun t k => X.baloadBytes C.1 (j := j) (v := v) (by rw [eT]; exact A.1) (State.isArrayOf_alike C.2.1.alike A.2.1) A.2.2 (inb_of S hj) (H.at (inb_of S hj) hv) (g := mkF m pc ls (.int j :: .ref a :: st)) rfl rfl (hb C.2.2.1 hd) t k) k
theorem safe_null {EL : List (String × Nat)} {vm : Vm} {x : Addr} (hal : Z.vm.Alike vm) (F : Fld Z h x "java/lang/String" "value" "[B" .null) (E : Exa Z h x "java/lang/String") : Safe Z EL vm h x := fun B => by
  obtain ⟨pp, -, u, a, -, q, -, Gq, rfl | rfl⟩ := B
  · obtain ⟨cell, cf, k, i, f, f1, f2, f3, f4, f5, f6, f7⟩ := F
    cases (show h[q.sa]? = some q.sC from Gq.ha).symm.trans f1
    obtain ⟨cS, ⟨⟨s1, s2, s3, ⟨cv, kv, iv, s4, s4'⟩, s5, s6, s7, s8, -⟩, -⟩, -⟩ := Gq
    obtain ⟨kv', z4⟩ := ff_back (U := Wst Z vm h) hal s4
    cases f2.symm.trans z4
    rw [s8] at f7; cases f7
  · obtain ⟨cell, k, e1, e2, e3, -, -⟩ := E
    cases (show h[q.sd]? = some q.SA from Gq.hd).symm.trans e1
    obtain ⟨cS, -, -, f, -⟩ := Gq
    have f' : vm.findClass "[B" = some q.SA.cls := f
    rw [hal.findClass] at f'
    obtain ⟨k1, q1, q2⟩ := Vm.findClass_spec f'
    obtain ⟨k2, q3, q4⟩ := Vm.findClass_spec e2
    cases q1.symm.trans q3
    exact absurd (q2.symm.trans q4) (by decide)
theorem safe_arv {EL : List (String × Nat)} {vm : Vm} {x : Addr} {kd : ClassId} {ty : FieldType} {n : Int32} {vs : List Value} {d : Value} (hal : Z.vm.Alike vm) (V : Arv Z h x kd ty n vs d) (ht : ty ≠ .byte) : Safe Z EL vm h x := by
  obtain ⟨cl, A, -⟩ := V
  exact Safe.arr hal A ht
theorem body_ofH {EL : List (String × Nat)} {y : MethodName} {bytes : ByteArray} {ws : List Cond} {as' : Array Value} {h0 : Heap} {Q : Option Value → Heap → List Loc → Prop} (hplain : plainFor y = true)
    (H : ∀ p e s m below meth c s₁ G, Ctx p Z (s.setVm s.vm) m meth c bytes y.cls maxL ret → meth.name = y.name → (s.setVm s.vm).methodNamed? y = some m → Stand p l e R (s.setVm s.vm) m as' below meth c s₁ [] 0 0 → s₁.heap = h0 → s.heap = h0 → s.Since s.vm 0 → CHv Z EL s.vm h0 → CHr Z EL s.vm h0 s.vm h0 →
      (∀ (v : Option Value) (L : List Loc) (T' : State), Q v T'.heap L → CHr Z EL s.vm h0 T'.vm T'.heap → ReturnedEndW s (.returned v) T' L R.cells R.slots → G (.returned v) T') →
      Goes p.tables e below G (s₁.setTop (entryFrame m as' maxL))) :
    MetFree l y (head1 (Cond.code y bytes maxL ret :: ws) R) (fun a U => a = as' ∧ Z.Warmed39 U.vm ∧ U.heap = h0 ∧ CHv Z EL U.vm h0) (fun _ _ _ _ _ => True) (fun _ U o U' => ∃ v L, o = .returned v ∧ Q v U'.heap L ∧ CHr Z EL U.vm U.heap U'.vm U'.heap ∧ ReturnedEndW U o U' L R.cells R.slots) := by
  refine MetFree.of_bodySF hplain hisR ?_
  intro p e s m args below meth c s₁ Bd hml0 hP hK
  obtain ⟨rfl, hZ, hh, hC⟩ := hP
  exact H p e s m below meth c s₁ _ ⟨Bd.exec, hZ, Bd.bytes, hml0, findClass_of_methodNamed Bd.named, Bd.returns, BodyLoose.notSynchronized Bd⟩ (name_of_methodNamed Bd.named Bd.method).1 Bd.named (Stand.of_body Bd) (by rw [← hh, Bd.state]; rfl) hh ((State.WarmedH.refl s).since 0) hC (CHr.refl hC)
    (fun v L T' hQ hR hE => ⟨v, L, rfl, hQ, by rw [hh]; exact hR, hE⟩)
theorem g_ldcCH {EL : List (String × Nat)} {vm0 : Vm} (C : Ctx p Z (s.setVm vm0) m meth c bs own maxL ret) (X : Stand p l e R (s.setVm vm0) m args below meth c T locs cells slots) {pc : Nat} {ls : Array Slot} {st : List Value} {text : String} {index k0 n : Nat} (w : (Cond.stringLink own index text).before a0 Z = true) (wS : ∀ a ∈ Bundle.stringAtoms, a.before a0 Z = true) (eT : T.heap = h) (hS : s.Since vm0 k0) (hk : k0 ≤ h.size) (hEL : EW Z a0 EL) (hmem : (own, index) ∈ EL) (H : CHv Z EL vm0 h) {vs : List Value} {z : Int32} (ht : (∀ c ∈ text.toList, c.toNat < 256) ∧ text.toList.map (fun c => Value.int (Jvm.Lit.byteI c.toNat.toUInt16)) = vs) (hz : ¬ z < 0) (hzl : z.toNatClampNeg = vs.length) (hd : decode bs pc = .ok (.ldc index, 2)) (pc' : Nat) (hn : 4 * text.toList.length ≤ n) (hbig : n ≤ 536870912) (hc : cells + 2 ≤ R.cells) (hl : slots + (n + 4) ≤ R.slots) (k : ∀ (b : Addr) (T' : State) (h' : Heap) (k1 : Nat) (b2 : Addr) (kd : ClassId), Ctx p Z (s.setVm T'.vm) m meth c bs own maxL ret → Stand p l e R (s.setVm T'.vm) m args below meth c T' locs (cells + 2) (slots + (n + 4)) → T'.heap = h' → Ext h h' → s.Since T'.vm k1 → k1 ≤ h'.size →
      Exa Z h' b "java/lang/String" → Fld Z h' b "java/lang/String" "coder" "B" (.int 0) → Fld Z h' b "java/lang/String" "value" "[B" (.ref b2) → Arv Z h' b2 kd .byte z vs (.int 0) → CHr Z EL vm0 h T'.vm h' → (∀ x, Safe Z EL T'.vm h' x → x ≠ b ∧ x ≠ b2) → Goes p.tables e below G (T'.setTop (mkF m pc' ls (.ref b :: st)))) (hp : pc + 2 = pc' := by rfl) : Goes p.tables e below G (T.setTop (mkF m pc ls st)) := by
  subst hp
  obtain ⟨b, T', h', k1, b2, kd, X', e', E', hS', hk', hZ', hown', f1, f2, f3, f4, -, -, A, -, Sf, st'⟩ := ldcCH X C.1 C.2.1 C.2.2.2.2.1 w wS eT hS hk hEL hmem H ht hz hzl (g := mkF m pc ls st) rfl (hb C.2.2.1 hd) hn hbig hc hl
  exact Goes.on (fun t k => st' t k) (k b T' h' k1 b2 kd ⟨C.1, hZ', C.2.2.1, C.2.2.2.1, hown', C.2.2.2.2.2⟩ X' e' E' hS' hk' f1 f2 f3 f4 A Sf)
theorem g_retNH {t : FieldType} {EL : List (String × Nat)} {vm0 : Vm} {k0 : Nat} {h0 : Heap} (C : Ctx p Z (s.setVm vm0) m meth c bs own maxL (some t)) (X : Stand p l e R (s.setVm vm0) m args below meth c T locs cells slots) {Q : Option Value → Heap → List Loc → Prop} (K : ∀ (v : Option Value) (L : List Loc) (T' : State), Q v T'.heap L → CHr Z EL s.vm h0 T'.vm T'.heap → ReturnedEndW s (.returned v) T' L R.cells R.slots → G (.returned v) T') (hS : s.Since vm0 k0) (hk : k0 ≤ h.size) (hEL : EW Z a0 EL) (H : CHv Z EL vm0 h) (Rr : CHr Z EL s.vm h0 vm0 h) {pc : Nat} {ls : Array Slot} {rest : List Value} {z : Int32} (ht : t = .boolean ∨ t = .byte ∨ t = .char ∨ t = .short) (hd : decode bs pc = .ok (.ireturn, 1)) (hc : cells ≤ R.cells) (hs : slots ≤ R.slots) (eT : T.heap = h) (hQ : Q (some (.int (nar t z))) h locs) : Goes p.tables e below G (T.setTop (mkF m pc ls (.int z :: rest))) := by
  have hlk : meth.locks = false := C.2.2.2.2.2.2
  obtain ⟨fs, hr, hrun, hended, hE⟩ := X.leaveW hS (by rw [eT]; exact hk) (v := some (.int (nar t z))) (fun q => by rw [C.2.2.2.2.2.1] at q; cases q) hlk
  refine ⟨_, _, ?_, hrun, hended, K _ locs _ (by show Q _ T.heap locs; rw [eT]; exact hQ) (by show CHr Z EL s.vm h0 T.vm T.heap; rw [eT]; exact Rr.trans (CHv.at X C.2.1 hEL H)) ⟨hE.1, hE.2.1, hE.2.2.1, hE.2.2.2.mono hc hs⟩⟩
  exact retN X C.1 C.2.2.2.2.2.1 ht (hb C.2.2.1 hd) hr
theorem g_retAH {t : FieldType} {EL : List (String × Nat)} {vm0 : Vm} {k0 : Nat} {h0 : Heap} (C : Ctx p Z (s.setVm vm0) m meth c bs own maxL (some t)) (X : Stand p l e R (s.setVm vm0) m args below meth c T locs cells slots) {Q : Option Value → Heap → List Loc → Prop} (K : ∀ (v : Option Value) (L : List Loc) (T' : State), Q v T'.heap L → CHr Z EL s.vm h0 T'.vm T'.heap → ReturnedEndW s (.returned v) T' L R.cells R.slots → G (.returned v) T') (hS : s.Since vm0 k0) (hk : k0 ≤ h.size) (hEL : EW Z a0 EL) (H : CHv Z EL vm0 h) (Rr : CHr Z EL s.vm h0 vm0 h) {pc : Nat} {ls : Array Slot} {rest : List Value} {w : Value} (ht : t.isReference = true) (hn : narrow t w = w) (hw : w.isRef = true) (hd : decode bs pc = .ok (.areturn, 1)) (hc : cells ≤ R.cells) (hs : slots ≤ R.slots) (eT : T.heap = h) (hQ : Q (some w) h locs) : Goes p.tables e below G (T.setTop (mkF m pc ls (w :: rest))) := by
  have hlk : meth.locks = false := C.2.2.2.2.2.2
  obtain ⟨fs, hr, hrun, hended, hE⟩ := X.leaveW hS (by rw [eT]; exact hk) (v := some w) (fun q => by rw [C.2.2.2.2.2.1] at q; cases q) hlk
  refine ⟨_, _, ?_, hrun, hended, K _ locs _ (by show Q _ T.heap locs; rw [eT]; exact hQ) (by show CHr Z EL s.vm h0 T.vm T.heap; rw [eT]; exact Rr.trans (CHv.at X C.2.1 hEL H)) ⟨hE.1, hE.2.1, hE.2.2.1, hE.2.2.2.mono hc hs⟩⟩
  exact retOut X C.1 (w := w) (i := .areturn) C.2.2.2.2.2.1 hn (Or.inr (Or.inr (Or.inr (Or.inr ⟨rfl, ht, hw⟩)))) (hb C.2.2.1 hd) hr
theorem g_retVH {EL : List (String × Nat)} {vm0 : Vm} {k0 : Nat} {h0 : Heap} (C : Ctx p Z (s.setVm vm0) m meth c bs own maxL (none)) (X : Stand p l e R (s.setVm vm0) m args below meth c T locs cells slots) {Q : Option Value → Heap → List Loc → Prop} (K : ∀ (v : Option Value) (L : List Loc) (T' : State), Q v T'.heap L → CHr Z EL s.vm h0 T'.vm T'.heap → ReturnedEndW s (.returned v) T' L R.cells R.slots → G (.returned v) T') (hS : s.Since vm0 k0) (hk : k0 ≤ h.size) (hEL : EW Z a0 EL) (H : CHv Z EL vm0 h) (Rr : CHr Z EL s.vm h0 vm0 h) {pc : Nat} {ls : Array Slot}  (hd : decode bs pc = .ok (.return_, 1)) (hc : cells ≤ R.cells) (hs : slots ≤ R.slots) (eT : T.heap = h) (hQ : Q (none) h locs) : Goes p.tables e below G (T.setTop (mkF m pc ls [])) := by
  have hlk : meth.locks = false := C.2.2.2.2.2.2
  obtain ⟨fs, hr, hrun, hended, hE⟩ := X.leaveW hS (by rw [eT]; exact hk) (v := none) (fun _ => rfl) hlk
  refine ⟨_, _, ?_, hrun, hended, K _ locs _ (by show Q _ T.heap locs; rw [eT]; exact hQ) (by show CHr Z EL s.vm h0 T.vm T.heap; rw [eT]; exact Rr.trans (CHv.at X C.2.1 hEL H)) ⟨hE.1, hE.2.1, hE.2.2.1, hE.2.2.2.mono hc hs⟩⟩
  exact X.returnOut C.1 C.2.2.2.2.2.1 (hb C.2.2.1 hd) hr
theorem g_callSH {EL : List (String × Nat)} {vm0 : Vm} {k0 : Nat} (C : Ctx p Z (s.setVm vm0) m meth c bs own maxL ret) (X : Stand p l e R (s.setVm vm0) m args below meth c T locs cells slots) (hS : s.Since vm0 k0) (hk : k0 ≤ h.size) (hEL : EW Z a0 EL) (H : CHv Z EL vm0 h) {pc : Nat} {ls : Array Slot} {y : MethodName} {index : Nat} {bytes : ByteArray} {maxY : Nat} {retY : Option FieldType} {rm : Room} {Q : Option Value → Heap → List Loc → Prop} {ps : List FieldType} {rr : Option FieldType} {stk : List Value} (w1 : (Cond.methodLink own index y).before a0 Z = true) (w2 : (Cond.static y).before a0 Z = true) (w3 : (Cond.initialized y.cls).before a0 Z = true) (w4 : (Cond.code y bytes maxY retY).before a0 Z = true) (hd : decode bs pc = .ok (.invokestatic index, 3)) (argsL rest : List Value) (W : Nat) (hM : MetFree l y (head1 [Cond.code y bytes maxY retY] rm) (fun a' U => a' = argsL.toArray ∧ Z.Warmed39 U.vm ∧ U.heap = h ∧ CHv Z EL U.vm h) (fun _ _ _ _ _ => True) (fun _ U o U' => ∃ v L, o = .returned v ∧ Q v U'.heap L ∧ CHr Z EL U.vm U.heap U'.vm U'.heap ∧ ReturnedEndW U o U' L rm.cells rm.slots)) (hpd : parseMethodDescriptor y.desc = some ⟨ps, rr⟩) (eT : T.heap = h) (pc' : Nat) (k : ∀ (v : Option Value) (T' : State) (L : List Loc), Ctx p Z (s.setVm T'.vm) m meth c bs own maxL ret → Stand p l e R (s.setVm T'.vm) m args below meth c T' (locs ++ L) (cells + rm.cells) (slots + rm.slots) → Q v T'.heap L → s.Since T'.vm T'.heap.size → CHr Z EL vm0 h T'.vm T'.heap → Goes p.tables e below G (T'.setTop (mkF m pc' ls (v.toList ++ rest)))) (hy : y.cls ≠ "java/lang/invoke/MethodHandle" ∧ y.cls ≠ "java/lang/invoke/VarHandle" := by decide) (hf : rm.frames + 1 ≤ R.frames := by decide) (hl : W + (maxY + 11) + rm.locals ≤ R.locals := by decide) (hls : ls.size = maxL := by rfl) (hlen : argsL.length = ps.length := by rfl) (hst : stk = argsL.reverse ++ rest := by rfl) (hW : (rest.map fun v => v.category).sum ≤ W := by exact Nat.le_of_eq rfl) (hc : cells + rm.cells ≤ R.cells := by decide) (hs : slots + rm.slots ≤ R.slots := by decide) (hp : pc + 3 = pc' := by rfl) : Goes p.tables e below G (T.setTop (mkF m pc ls stk)) := by
  subst hp hst
  obtain ⟨v, _, ⟨T', L', k', n'⟩, -, X', hS2, hgr, ⟨L, hQ, l1, l2, l3, A⟩, st'⟩ := callSS X C.1 (y := y) C.2.2.2.2.1 (mvT C.2.1 w1) (mvT C.2.1 w2) (mvT C.2.1 w3) (mvT C.2.1 w4) hy (backOfSH (W := W) hM C.2.1 w4 w3 hf hl hEL H) (g := mkF m pc ls (argsL.reverse ++ rest)) rfl (by rw [C.2.2.2.1]; exact hls) (argsL := argsL) (rest := rest) (lenOf hpd hlen) rfl (by show 2 * 0 + _ ≤ _; omega) (hb C.2.2.1 hd) (fun _ _ => ⟨rfl, eT, hc, hs⟩)
  dsimp only [Pt.U, Pt.locs, Pt.cells, Pt.slots] at X' l1 l2 l3 st' hQ hS2 hgr A
  subst l1 l2 l3
  have hZ' : Z.Warmed39 (s.setVm T'.vm).vm := State.Warmed39.trans (t := s.setVm vm0) C.2.1 hS2.1
  have hown' : (s.setVm T'.vm).vm.findClass own = some m.cls := by rw [show (s.setVm T'.vm).vm = T'.vm from rfl, hS2.1.alike.findClass]; exact C.2.2.2.2.1
  exact Goes.on (fun t k => st'.trans k) (k v T' L ⟨C.1, hZ', C.2.2.1, C.2.2.2.1, hown', C.2.2.2.2.2⟩ X' hQ (foldS hS (by rw [eT]; exact hk) hS2 hgr) A)
theorem g_callIH {EL : List (String × Nat)} {vm0 : Vm} {k0 : Nat} (C : Ctx p Z (s.setVm vm0) m meth c bs own maxL ret) (X : Stand p l e R (s.setVm vm0) m args below meth c T locs cells slots) (hS : s.Since vm0 k0) (hk : k0 ≤ h.size) (hEL : EW Z a0 EL) (H : CHv Z EL vm0 h) {pc : Nat} {ls : Array Slot} {a : Addr} {y : MethodName} {index : Nat} {bytes : ByteArray} {maxY : Nat} {rm : Room} {Q : Option Value → Heap → List Loc → Prop} {ps : List FieldType} {rr : Option FieldType} {stk : List Value} (hn : y.name = "<init>") (w1 : (Cond.methodLink own index y).before a0 Z = true) (w2 : (Cond.instanceMethod y).before a0 Z = true) (w3 : (Cond.initialized y.cls).before a0 Z = true) (w4 : (Cond.code y bytes maxY none).before a0 Z = true) (hd : decode bs pc = .ok (.invokespecial index, 3)) (argsL rest : List Value) (W : Nat) (hM : MetFree l y (head1 [Cond.code y bytes maxY none] rm) (fun a' U => a' = (.ref a :: argsL).toArray ∧ Z.Warmed39 U.vm ∧ U.heap = h ∧ CHv Z EL U.vm h) (fun _ _ _ _ _ => True) (fun _ U o U' => ∃ v L, o = .returned v ∧ Q v U'.heap L ∧ CHr Z EL U.vm U.heap U'.vm U'.heap ∧ ReturnedEndW U o U' L rm.cells rm.slots)) (hpd : parseMethodDescriptor y.desc = some ⟨ps, rr⟩) (eT : T.heap = h) (pc' : Nat) (k : ∀ (v : Option Value) (T' : State) (L : List Loc), Ctx p Z (s.setVm T'.vm) m meth c bs own maxL ret → Stand p l e R (s.setVm T'.vm) m args below meth c T' (locs ++ L) (cells + rm.cells) (slots + rm.slots) → Q v T'.heap L → s.Since T'.vm T'.heap.size → CHr Z EL vm0 h T'.vm T'.heap → Goes p.tables e below G (T'.setTop (mkF m pc' ls (v.toList ++ rest)))) (hy : y.cls ≠ "java/lang/invoke/MethodHandle" ∧ y.cls ≠ "java/lang/invoke/VarHandle" := by decide) (hf : rm.frames + 1 ≤ R.frames := by decide) (hl : W + (maxY + 11) + rm.locals ≤ R.locals := by decide) (hls : ls.size = maxL := by rfl) (hlen : argsL.length = ps.length := by rfl) (hst : stk = argsL.reverse ++ .ref a :: rest := by rfl) (hW : (rest.map fun v => v.category).sum ≤ W := by exact Nat.le_of_eq rfl) (hc : cells + rm.cells ≤ R.cells := by decide) (hs : slots + rm.slots ≤ R.slots := by decide) (hp : pc + 3 = pc' := by rfl) : Goes p.tables e below G (T.setTop (mkF m pc ls stk)) := by
  subst hp hst
  obtain ⟨v, _, ⟨T', L', k', n'⟩, -, X', hS2, hgr, ⟨L, hQ, l1, l2, l3, A⟩, st'⟩ := X.specialBackS C.1 (y := y) hn C.2.2.2.2.1 (mvT C.2.1 w1) (mvT C.2.1 w2) (mvT C.2.1 w4) hy (backOfSH (W := W) hM C.2.1 w4 w3 hf hl hEL H) (g := mkF m pc ls (argsL.reverse ++ .ref a :: rest)) rfl (by rw [C.2.2.2.1]; exact hls) (Steps.refl _) (a := a) (argsL := argsL) (rest := rest) (lenOf hpd hlen) rfl (by show 2 * 0 + _ ≤ _; omega) (hb C.2.2.1 hd) (fun _ _ => ⟨rfl, eT, hc, hs⟩)
  dsimp only [Pt.U, Pt.locs, Pt.cells, Pt.slots] at X' l1 l2 l3 st' hQ hS2 hgr A
  subst l1 l2 l3
  have hZ' : Z.Warmed39 (s.setVm T'.vm).vm := State.Warmed39.trans (t := s.setVm vm0) C.2.1 hS2.1
  have hown' : (s.setVm T'.vm).vm.findClass own = some m.cls := by rw [show (s.setVm T'.vm).vm = T'.vm from rfl, hS2.1.alike.findClass]; exact C.2.2.2.2.1
  exact Goes.on (fun t k => st'.trans k) (k v T' L ⟨C.1, hZ', C.2.2.1, C.2.2.2.1, hown', C.2.2.2.2.2⟩ X' hQ (foldS hS (by rw [eT]; exact hk) hS2 hgr) A)
theorem g_callVH {EL : List (String × Nat)} {vm0 : Vm} {k0 : Nat} (C : Ctx p Z (s.setVm vm0) m meth c bs own maxL ret) (X : Stand p l e R (s.setVm vm0) m args below meth c T locs cells slots) (hS : s.Since vm0 k0) (hk : k0 ≤ h.size) (hEL : EW Z a0 EL) (H : CHv Z EL vm0 h) {pc : Nat} {ls : Array Slot} {a : Addr} {K : String} {y z : MethodName} {index : Nat} {bytes : ByteArray} {maxY : Nat} {retY : Option FieldType} {rm : Room} {Q : Option Value → Heap → List Loc → Prop} {ps : List FieldType} {rr : Option FieldType} {stk : List Value} (w1 : (Cond.methodLink own index y).before a0 Z = true) (w2 : (Cond.declares y).before a0 Z = true) (hnf : NotFace (s.setVm vm0) y) (w3 : (Cond.selects K y z).before a0 Z = true) (w4 : (Cond.instanceMethod z).before a0 Z = true) (w5 : (Cond.code z bytes maxY retY).before a0 Z = true) (w6 : (Cond.initialized z.cls).before a0 Z = true) (E : Exa Z h a K) (hd : decode bs pc = .ok (.invokevirtual index, 3)) (argsL rest : List Value) (W : Nat) (hM : MetFree l z (head1 [Cond.code z bytes maxY retY] rm) (fun a' U => a' = (.ref a :: argsL).toArray ∧ Z.Warmed39 U.vm ∧ U.heap = h ∧ CHv Z EL U.vm h) (fun _ _ _ _ _ => True) (fun _ U o U' => ∃ v L, o = .returned v ∧ Q v U'.heap L ∧ CHr Z EL U.vm U.heap U'.vm U'.heap ∧ ReturnedEndW U o U' L rm.cells rm.slots)) (hpd : parseMethodDescriptor y.desc = some ⟨ps, rr⟩) (eT : T.heap = h) (pc' : Nat) (k : ∀ (v : Option Value) (T' : State) (L : List Loc), Ctx p Z (s.setVm T'.vm) m meth c bs own maxL ret → Stand p l e R (s.setVm T'.vm) m args below meth c T' (locs ++ L) (cells + rm.cells) (slots + rm.slots) → Q v T'.heap L → s.Since T'.vm T'.heap.size → CHr Z EL vm0 h T'.vm T'.heap → Goes p.tables e below G (T'.setTop (mkF m pc' ls (v.toList ++ rest)))) (hy : y.cls ≠ "java/lang/invoke/MethodHandle" ∧ y.cls ≠ "java/lang/invoke/VarHandle" := by decide) (hf : rm.frames + 1 ≤ R.frames := by decide) (hl : W + (maxY + 11) + rm.locals ≤ R.locals := by decide) (hls : ls.size = maxL := by rfl) (hlen : argsL.length = ps.length := by rfl) (hst : stk = argsL.reverse ++ .ref a :: rest := by rfl) (hW : (rest.map fun v => v.category).sum ≤ W := by exact Nat.le_of_eq rfl) (hc : cells + rm.cells ≤ R.cells := by decide) (hs : slots + rm.slots ≤ R.slots := by decide) (hp : pc + 3 = pc' := by rfl) : Goes p.tables e below G (T.setTop (mkF m pc ls stk)) := by
  subst hp hst
  obtain ⟨cq, kq, qa, qb, qc⟩ := isOf C.2.1 eT E
  obtain ⟨v, _, ⟨T', L', k', n'⟩, -, X', hS2, hgr, ⟨L, hQ, l1, l2, l3, A⟩, st'⟩ := X.virtualBackS C.1 (y := y) (z := z) C.2.2.2.2.1 (mvT C.2.1 w1) (mvT C.2.1 w2) hnf (mvT C.2.1 w3) (mvT C.2.1 w4) hy (backOfSH (W := W) hM C.2.1 w5 w6 hf hl hEL H) qa qc (g := mkF m pc ls (argsL.reverse ++ .ref a :: rest)) rfl (by rw [C.2.2.2.1]; exact hls) (Steps.refl _) (argsL := argsL) (rest := rest) (lenOf hpd hlen) rfl (by show 2 * 0 + _ ≤ _; omega) (hb C.2.2.1 hd) (fun _ _ => ⟨rfl, eT, hc, hs⟩)
  dsimp only [Pt.U, Pt.locs, Pt.cells, Pt.slots] at X' l1 l2 l3 st' hQ hS2 hgr A
  subst l1 l2 l3
  have hZ' : Z.Warmed39 (s.setVm T'.vm).vm := State.Warmed39.trans (t := s.setVm vm0) C.2.1 hS2.1
  have hown' : (s.setVm T'.vm).vm.findClass own = some m.cls := by rw [show (s.setVm T'.vm).vm = T'.vm from rfl, hS2.1.alike.findClass]; exact C.2.2.2.2.1
  exact Goes.on (fun t k => st'.trans k) (k v T' L ⟨C.1, hZ', C.2.2.1, C.2.2.2.1, hown', C.2.2.2.2.2⟩ X' hQ (foldS hS (by rw [eT]; exact hk) hS2 hgr) A)
theorem g_acopy (C : Ctx p Z s m meth c bs own maxL ret) (X : Stand p l e R s m args below meth c T locs cells slots) {pc : Nat} {ls : Array Slot} {st : List Value} {index n0 : Nat} {a b : Addr} {k1 k2 : ClassId} {ty : FieldType} {z z' sp dp nn : Int32} {vs vd us ur : List Value} {dv dd : Value} (w1 : (Cond.methodLink own index Jvm.Stand.acN).before a0 Z = true) (w2 : (Cond.native Jvm.Stand.acN).before a0 Z = true) (w3 : (Cond.static Jvm.Stand.acN).before a0 Z = true) (w4 : (Cond.initialized "java/lang/System").before a0 Z = true) (eT : T.heap = h) (A : Arv Z h a k1 ty z vs dv) (B : Arv Z h b k2 ty z' vd dd) (hty : refKind ty = false) (h1 : ¬ sp < 0) (h2 : ¬ dp < 0) (h3 : ¬ nn < 0) (h4 : sp.toNatClampNeg + nn.toNatClampNeg ≤ z.toNatClampNeg) (h5 : dp.toNatClampNeg + nn.toNatClampNeg ≤ z'.toNatClampNeg) (hus : (List.range nn.toNatClampNeg).map (fun i => vs.getD (sp.toNatClampNeg + i) dv) = us) (hl : dp.toNatClampNeg + nn.toNatClampNeg ≤ vd.length) (hur : vd.take dp.toNatClampNeg ++ us ++ vd.drop (dp.toNatClampNeg + nn.toNatClampNeg) = ur) (N : Fr n0 locs) (ge : n0 ≤ b) (hls : ls.size = maxL) (hd : decode bs pc = .ok (.invokestatic index, 3)) (pc' : Nat) (hf : 1 ≤ R.frames) {W : Nat} (hW : (st.map fun v => v.category).sum ≤ W) (hlo : W + (nativeFrameWords "java/lang/System" "arraycopy" 5 + 11) ≤ R.locals) (k : ∀ (T' : State) (h' : Heap) (L : List Loc), Stand p l e R s m args below meth c T' L cells slots → T'.heap = h' → Fr n0 L → Keep h h' [b] → Arv Z h' b k2 ty z' ur dd → Goes p.tables e below G (T'.setTop (mkF m pc' ls st))) (hp : pc + 3 = pc' := by rfl) : Goes p.tables e below G (T.setTop (mkF m pc ls (.int nn :: .int dp :: .ref b :: .int sp :: .ref a :: st))) := by
  subst hp hur
  obtain ⟨T', h', L, X', e', N', K', V', st'⟩ := cpA X C.1 C.2.1 C.2.2.2.2.1 w1 w2 w3 w4 eT A B (Or.inl ⟨rfl, hty⟩) h1 h2 h3 h4 h5 hus.symm hl N ge (g := mkF m pc ls (.int nn :: .int dp :: .ref b :: .int sp :: .ref a :: st)) rfl (by rw [C.2.2.2.1]; exact hls) rfl (hb C.2.2.1 hd) hf (W := W) (by show 2 * 0 + _ ≤ _; omega) hlo
  exact Goes.on (fun t k => st' t k) (k T' h' L X' e' N' K' V')
abbrev OwnQ (w : Option Value) (h0 : Heap) (n0 : Nat) (v : Option Value) (h : Heap) (L : List Loc) : Prop := v = w ∧ Fr n0 L ∧ h = h0
abbrev CallS (own : String) (index : Nat) (y : MethodName) (bytes : ByteArray) (maxY : Nat) (retY : Option FieldType) (a0 : Array Value) (Z : State) : Prop := (Cond.methodLink own index y).before a0 Z = true ∧ (Cond.static y).before a0 Z = true ∧ (Cond.initialized y.cls).before a0 Z = true ∧ (Cond.code y bytes maxY retY).before a0 Z = true
abbrev CallV (own : String) (index : Nat) (y : MethodName) (K : String) (bytes : ByteArray) (maxY : Nat) (retY : Option FieldType) (a0 : Array Value) (Z : State) : Prop := (Cond.methodLink own index y).before a0 Z = true ∧ (Cond.declares y).before a0 Z = true ∧ (Cond.selects K y y).before a0 Z = true ∧ (Cond.instanceMethod y).before a0 Z = true ∧ (Cond.code y bytes maxY retY).before a0 Z = true ∧ (Cond.initialized y.cls).before a0 Z = true
theorem g_callS0 (C : Ctx p Z s m meth c bs own maxL ret) (X : Stand p l e R s m args below meth c T locs cells slots) {pc : Nat} {ls : Array Slot} {y : MethodName} {index : Nat} {bytes : ByteArray} {maxY : Nat} {retY : Option FieldType} {rm : Room} {ps : List FieldType} {rr : Option FieldType} {stk : List Value} {n0 : Nat} {w : Value} (B : CallS own index y bytes maxY retY a0 Z) (hd : decode bs pc = .ok (.invokestatic index, 3)) (argsL rest : List Value) (W : Nat) (hM : MetFree l y (head1 [Cond.code y bytes maxY retY] rm) (fun a' U => a' = argsL.toArray ∧ Z.Warmed39 U.vm ∧ U.heap = h) (fun _ _ _ _ _ => True) (fun _ U o U' => ∃ v L, o = .returned v ∧ OwnQ (some w) h n0 v U'.heap L ∧ FrameEnd U o U' L rm.cells rm.slots)) (N : Fr n0 locs) (hpd : parseMethodDescriptor y.desc = some ⟨ps, rr⟩) (eT : T.heap = h) (pc' : Nat) (k : ∀ (T' : State) (L : List Loc), Stand p l e R s m args below meth c T' (locs ++ L) (cells + rm.cells) (slots + rm.slots) → Fr n0 (locs ++ L) → T'.heap = h → Goes p.tables e below G (T'.setTop (mkF m pc' ls (w :: rest)))) (hy : y.cls ≠ "java/lang/invoke/MethodHandle" ∧ y.cls ≠ "java/lang/invoke/VarHandle" := by decide) (hf : rm.frames + 1 ≤ R.frames := by decide) (hl : W + (maxY + 11) + rm.locals ≤ R.locals := by decide) (hls : ls.size = maxL := by rfl) (hlen : argsL.length = ps.length := by rfl) (hst : stk = argsL.reverse ++ rest := by rfl) (hW : (rest.map fun v => v.category).sum ≤ W := by exact Nat.le_of_eq rfl) (hc : cells + rm.cells ≤ R.cells := by decide) (hs : slots + rm.slots ≤ R.slots := by decide) (hp : pc + 3 = pc' := by rfl) : Goes p.tables e below G (T.setTop (mkF m pc ls stk)) :=
  g_callS C X B.1 B.2.1 B.2.2.1 B.2.2.2 hd argsL rest W hM hpd eT pc' (fun v T' L X' hQ => by obtain ⟨rfl, Nq, eq⟩ := hQ; exact k T' L X' (Fr.app N Nq) eq) hy hf hl hls hlen hst hW hc hs hp
theorem g_callSn (C : Ctx p Z s m meth c bs own maxL ret) (X : Stand p l e R s m args below meth c T locs cells slots) {pc : Nat} {ls : Array Slot} {y : MethodName} {index : Nat} {bytes : ByteArray} {maxY : Nat} {retY : Option FieldType} {rm : Room} {ps : List FieldType} {rr : Option FieldType} {stk : List Value} {n0 : Nat} (B : CallS own index y bytes maxY retY a0 Z) (hd : decode bs pc = .ok (.invokestatic index, 3)) (argsL rest : List Value) (W : Nat) (hM : MetFree l y (head1 [Cond.code y bytes maxY retY] rm) (fun a' U => a' = argsL.toArray ∧ Z.Warmed39 U.vm ∧ U.heap = h) (fun _ _ _ _ _ => True) (fun _ U o U' => ∃ v L, o = .returned v ∧ OwnQ none h n0 v U'.heap L ∧ FrameEnd U o U' L rm.cells rm.slots)) (N : Fr n0 locs) (hpd : parseMethodDescriptor y.desc = some ⟨ps, rr⟩) (eT : T.heap = h) (pc' : Nat) (k : ∀ (T' : State) (L : List Loc), Stand p l e R s m args below meth c T' (locs ++ L) (cells + rm.cells) (slots + rm.slots) → Fr n0 (locs ++ L) → T'.heap = h → Goes p.tables e below G (T'.setTop (mkF m pc' ls (rest)))) (hy : y.cls ≠ "java/lang/invoke/MethodHandle" ∧ y.cls ≠ "java/lang/invoke/VarHandle" := by decide) (hf : rm.frames + 1 ≤ R.frames := by decide) (hl : W + (maxY + 11) + rm.locals ≤ R.locals := by decide) (hls : ls.size = maxL := by rfl) (hlen : argsL.length = ps.length := by rfl) (hst : stk = argsL.reverse ++ rest := by rfl) (hW : (rest.map fun v => v.category).sum ≤ W := by exact Nat.le_of_eq rfl) (hc : cells + rm.cells ≤ R.cells := by decide) (hs : slots + rm.slots ≤ R.slots := by decide) (hp : pc + 3 = pc' := by rfl) : Goes p.tables e below G (T.setTop (mkF m pc ls stk)) :=
  g_callS C X B.1 B.2.1 B.2.2.1 B.2.2.2 hd argsL rest W hM hpd eT pc' (fun v T' L X' hQ => by obtain ⟨rfl, Nq, eq⟩ := hQ; exact k T' L X' (Fr.app N Nq) eq) hy hf hl hls hlen hst hW hc hs hp
theorem g_callV0 (C : Ctx p Z s m meth c bs own maxL ret) (X : Stand p l e R s m args below meth c T locs cells slots) {pc : Nat} {ls : Array Slot} {y : MethodName} {index : Nat} {bytes : ByteArray} {maxY : Nat} {retY : Option FieldType} {rm : Room} {ps : List FieldType} {rr : Option FieldType} {stk : List Value} {n0 : Nat} {a : Addr} {K : String} {w : Value} (B : CallV own index y K bytes maxY retY a0 Z) (E : Exa Z h a K) (hd : decode bs pc = .ok (.invokevirtual index, 3)) (argsL rest : List Value) (W : Nat) (hM : MetFree l y (head1 [Cond.code y bytes maxY retY] rm) (fun a' U => a' = (.ref a :: argsL).toArray ∧ Z.Warmed39 U.vm ∧ U.heap = h) (fun _ _ _ _ _ => True) (fun _ U o U' => ∃ v L, o = .returned v ∧ OwnQ (some w) h n0 v U'.heap L ∧ FrameEnd U o U' L rm.cells rm.slots)) (N : Fr n0 locs) (hpd : parseMethodDescriptor y.desc = some ⟨ps, rr⟩) (eT : T.heap = h) (pc' : Nat) (k : ∀ (T' : State) (L : List Loc), Stand p l e R s m args below meth c T' (locs ++ L) (cells + rm.cells) (slots + rm.slots) → Fr n0 (locs ++ L) → T'.heap = h → Goes p.tables e below G (T'.setTop (mkF m pc' ls (w :: rest)))) (hy : y.cls ≠ "java/lang/invoke/MethodHandle" ∧ y.cls ≠ "java/lang/invoke/VarHandle" := by decide) (hf : rm.frames + 1 ≤ R.frames := by decide) (hl : W + (maxY + 11) + rm.locals ≤ R.locals := by decide) (hls : ls.size = maxL := by rfl) (hlen : argsL.length = ps.length := by rfl) (hst : stk = argsL.reverse ++ .ref a :: rest := by rfl) (hW : (rest.map fun v => v.category).sum ≤ W := by exact Nat.le_of_eq rfl) (hc : cells + rm.cells ≤ R.cells := by decide) (hs : slots + rm.slots ≤ R.slots := by decide) (hp : pc + 3 = pc' := by rfl) : Goes p.tables e below G (T.setTop (mkF m pc ls stk)) :=
  g_callV C X B.1 B.2.1 (notFace_of_selects (args := #[]) (mvT C.2.1 B.2.2.1)) B.2.2.1 B.2.2.2.1 B.2.2.2.2.1 B.2.2.2.2.2 E hd argsL rest W hM hpd eT pc' (fun v T' L X' hQ => by obtain ⟨rfl, Nq, eq⟩ := hQ; exact k T' L X' (Fr.app N Nq) eq) hy hf hl hls hlen hst hW hc hs hp
theorem bo {y : MethodName} {bytes : ByteArray} {ws : List Cond} {as' : Array Value} {h0 : Heap} {Q : Option Value → Heap → List Loc → Prop} (hplain : plainFor y = true)
    (H : ∀ p e s m below meth c s₁ G, Ctx p Z s m meth c bytes y.cls maxL ret → meth.name = y.name → s.methodNamed? y = some m → Stand p l e R s m as' below meth c s₁ [] 0 0 → s₁.heap = h0 →
      (∀ (v : Option Value) (L : List Loc) (T' : State), Q v T'.heap L → s.WarmedH T'.vm → s.sameButNew ({ T' with vm := s.vm } : State) L R.cells R.slots → G (.returned v) T') →
      Goes p.tables e below G (s₁.setTop (entryFrame m as' maxL))) : OwnMF l Z y bytes maxL ret ws R as' h0 Q := body_of hplain H
theorem boH {EL : List (String × Nat)} {y : MethodName} {bytes : ByteArray} {ws : List Cond} {as' : Array Value} {h0 : Heap} {Q : Option Value → Heap → List Loc → Prop} (hplain : plainFor y = true)
    (H : ∀ p e s m below meth c s₁ G, Ctx p Z (s.setVm s.vm) m meth c bytes y.cls maxL ret → meth.name = y.name → (s.setVm s.vm).methodNamed? y = some m → Stand p l e R (s.setVm s.vm) m as' below meth c s₁ [] 0 0 → s₁.heap = h0 → s.heap = h0 → s.Since s.vm 0 → CHv Z EL s.vm h0 → CHr Z EL s.vm h0 s.vm h0 →
      (∀ (v : Option Value) (L : List Loc) (T' : State), Q v T'.heap L → CHr Z EL s.vm h0 T'.vm T'.heap → ReturnedEndW s (.returned v) T' L R.cells R.slots → G (.returned v) T') →
      Goes p.tables e below G (s₁.setTop (entryFrame m as' maxL))) : OwnMFH l Z EL y bytes maxL ret ws R as' h0 Q := body_ofH hplain H
end Kit
end Jvm.Own

namespace Jvm.Pilot.@@N@@
open Jvm Jvm.ClassFile Sem Op Lib Jvm.Free Jvm.Stand Jvm.LawKit Jvm.RoadKit Jvm.Own Bundle Jvm.Pilot.@@N@@.Jvm.D
set_option maxRecDepth 65536
set_option maxHeartbeats 40000000
abbrev OwnW (a0 : Array Value) (Z : State) : Prop := ∀ d ∈ tables_1, d.before a0 Z = true
variable {l : Launch} {Z : State} {a0 : Array Value} {ws : List Jvm.Cond} {h0 : Heap} {n0 : Nat}
abbrev OFv (Z : State) (h : Heap) (a : Addr) (v : Value) : Prop := Fld Z h a "java/lang/String" "value" "[B" v
abbrev OFc (Z : State) (h : Heap) (a : Addr) : Prop := Fld Z h a "java/lang/String" "coder" "B" (.int (0 : Int32))
abbrev OEs (Z : State) (h : Heap) (a : Addr) : Prop := Exa Z h a "java/lang/String"
abbrev OSc (Z : State) (h : Heap) (x : Int32) : Prop := Sta Z h "java/lang/String" "COMPACT_STRINGS" "Z" (.int x)
abbrev OSf (Z : State) (h : Heap) (x : Value) : Prop := Sta Z h "jdk/internal/util/Preconditions" "SIOOBE_FORMATTER" "Ljava/util/function/BiFunction;" x
def own_ch (b : Int32) : Int32 := nar .char (b &&& 255).toUInt32.toUInt16.toUInt32.toInt32
def own_lat (c : Int32) : Prop := ¬ c < 0 ∧ ¬ 255 < c
theorem own_ch_fin : ∀ n : Fin 256, own_ch (nar .byte (Int32.ofNat n.val).toInt8.toInt32) = Int32.ofNat n.val := by decide +kernel
theorem own_lat_fin {c : Int32} (h : own_lat c) : ∃ n : Fin 256, c = Int32.ofNat n.val := by
  obtain ⟨h1, h2⟩ := h
  have e0 : (0 : Int32).toInt = 0 := by decide
  have e1 : (255 : Int32).toInt = 255 := by decide
  rw [Int32.lt_iff_toInt_lt] at h1 h2
  refine ⟨⟨c.toInt.toNat, by omega⟩, ?_⟩
  rw [← Int32.toInt_inj]
  show c.toInt = (Int32.ofNat c.toInt.toNat).toInt
  rw [Int32.toInt_ofNat_of_lt (by omega)]; omega
theorem own_ch_of {c : Int32} (h : own_lat c) : own_ch (nar .byte c.toInt8.toInt32) = c := by
  obtain ⟨n, rfl⟩ := own_lat_fin h
  exact own_ch_fin n
theorem own_and_lat (x : Int32) : own_lat (x &&& 255) := by
  have e : (x &&& 255 : Int32).toInt = x.toInt % 2 ^ 8 := Jvm.Kit.i32_mask x 255 (k := 8) (by decide) (by decide)
  have e0 : (0 : Int32).toInt = 0 := by decide
  have e1 : (255 : Int32).toInt = 255 := by decide
  refine ⟨?_, ?_⟩ <;> rw [Int32.lt_iff_toInt_lt] <;> omega
theorem own_i2c_fin : ∀ n : Fin 256, (Int32.ofNat n.val).toUInt32.toUInt16.toUInt32.toInt32 = Int32.ofNat n.val := by decide +kernel
theorem own_i2c {c : Int32} (h : own_lat c) : c.toUInt32.toUInt16.toUInt32.toInt32 = c := by
  obtain ⟨n, rfl⟩ := own_lat_fin h
  exact own_i2c_fin n
theorem own_narc {c : Int32} (h : own_lat c) : nar .char c = c := own_i2c h
theorem own_c255 (x : Int32) : own_lat (x &&& 255).toUInt32.toUInt16.toUInt32.toInt32 := by rw [own_i2c (own_and_lat x)]; exact own_and_lat x
theorem own_bs (c : Int32) : nar .char c = c.toUInt32.toUInt16.toUInt32.toInt32 := rfl
theorem own_u16 (u : UInt16) : u.toUInt32.toInt32.toUInt32.toUInt16 = u := by
  show u.toUInt32.toUInt16 = u
  simp
theorem own_narr (b : Int32) : nar .char (own_ch b) = own_ch b := by
  show (b &&& 255).toUInt32.toUInt16.toUInt32.toInt32.toUInt32.toUInt16.toUInt32.toInt32.toUInt32.toUInt16.toUInt32.toInt32 = (b &&& 255).toUInt32.toUInt16.toUInt32.toInt32.toUInt32.toUInt16.toUInt32.toInt32
  rw [own_u16]
theorem own_ne0 {t : Term} {args : Array Value} {s : State} {x k : Int32} (ev : t.eval args s none [] s = some (.int x)) (h : (Jvm.Cond.eq t (.int k)).value args s none s [] = some false) : ¬ x = k := by
  have e2 : (Term.int k).eval args s none [] s = some (.int k) := rfl
  simp only [Cond.value, ev, e2] at h
  simpa using h
def EL : List (String × Nat) := [("java/lang/String", 7), ("java/lang/StringLatin1", 151)]
theorem ef_1i (m : MethodId) (a1 : Int32) : entryFrame m #[(.int a1)] 2 = mkF m 0 #[iv a1, uu] [] := by first | (simp [entryFrame, mkF, argsToLocals, Value.category, iv, rv, jv, nv, uu, sd]; done) | rfl
theorem d1_0 : decode method_2_code 0 = .ok (.iload_n 0, 1) := by decide +kernel
theorem d1_1 : decode method_2_code 1 = .ok (.bipush 7, 2) := by decide +kernel
theorem d1_3 : decode method_2_code 3 = .ok (.iand, 1) := by decide +kernel
theorem d1_4 : decode method_2_code 4 = .ok (.istore_n 1, 1) := by decide +kernel
theorem d1_5 : decode method_2_code 5 = .ok (.iload_n 1, 1) := by decide +kernel
theorem d1_6 : decode method_2_code 6 = .ok (.ifCond .ne 6, 3) := by decide +kernel
theorem d1_12 : decode method_2_code 12 = .ok (.iload_n 1, 1) := by decide +kernel
theorem d1_13 : decode method_2_code 13 = .ok (.iconst 1, 1) := by decide +kernel
theorem d1_14 : decode method_2_code 14 = .ok (.if_icmp .ne 6, 3) := by decide +kernel
theorem d1_20 : decode method_2_code 20 = .ok (.iload_n 1, 1) := by decide +kernel
theorem d1_21 : decode method_2_code 21 = .ok (.iconst 2, 1) := by decide +kernel
theorem d1_22 : decode method_2_code 22 = .ok (.if_icmp .ne 6, 3) := by decide +kernel
theorem d1_28 : decode method_2_code 28 = .ok (.iload_n 1, 1) := by decide +kernel
theorem d1_29 : decode method_2_code 29 = .ok (.iconst 3, 1) := by decide +kernel
theorem d1_30 : decode method_2_code 30 = .ok (.if_icmp .ne 6, 3) := by decide +kernel
theorem d1_36 : decode method_2_code 36 = .ok (.iload_n 0, 1) := by decide +kernel
theorem d1_37 : decode method_2_code 37 = .ok (.iconst 3, 1) := by decide +kernel
theorem d1_38 : decode method_2_code 38 = .ok (.iushr, 1) := by decide +kernel
theorem d1_39 : decode method_2_code 39 = .ok (.sipush 255, 3) := by decide +kernel
theorem d1_42 : decode method_2_code 42 = .ok (.iand, 1) := by decide +kernel
theorem d1_43 : decode method_2_code 43 = .ok (.i2c, 1) := by decide +kernel
theorem d1_44 : decode method_2_code 44 = .ok (.ireturn, 1) := by decide +kernel
theorem d1_33 : decode method_2_code 33 = .ok (.bipush 10, 2) := by decide +kernel
theorem d1_35 : decode method_2_code 35 = .ok (.ireturn, 1) := by decide +kernel
theorem d1_25 : decode method_2_code 25 = .ok (.bipush 13, 2) := by decide +kernel
theorem d1_27 : decode method_2_code 27 = .ok (.ireturn, 1) := by decide +kernel
theorem d1_17 : decode method_2_code 17 = .ok (.bipush 9, 2) := by decide +kernel
theorem d1_19 : decode method_2_code 19 = .ok (.ireturn, 1) := by decide +kernel
theorem d1_9 : decode method_2_code 9 = .ok (.bipush 32, 2) := by decide +kernel
theorem d1_11 : decode method_2_code 11 = .ok (.ireturn, 1) := by decide +kernel
def fPick (x0 : Int32) : Int32 := if (x0 &&& (7 : Int32)) = (0 : Int32) then (nar .char (32 : Int32)) else if (x0 &&& (7 : Int32)) = (1 : Int32) then (nar .char (9 : Int32)) else if (x0 &&& (7 : Int32)) = (2 : Int32) then (nar .char (13 : Int32)) else if (x0 &&& (7 : Int32)) = (3 : Int32) then (nar .char (10 : Int32)) else (nar .char ((XT.ushr x0 (3 : Int32)) &&& (255 : Int32)).toUInt32.toUInt16.toUInt32.toInt32)
abbrev y1 : MethodName := (⟨"com/example/firer/firer/formats/XmlSpaceTrimPinLaw", "pick", "(I)C"⟩ : MethodName)
theorem pn_0 : plainName "com/example/firer/firer/formats/XmlSpaceTrimPinLaw" = true := by first | (simp [plainName, overriddenIn]; done) | decide +kernel
theorem rm1 {x0 : Int32} (hw : OwnW a0 Z) (Z0 : n0 ≤ h0.size) : OwnMF l Z y1 method_2_code 2 (some .char) ws ⟨0, 0, 0, 0⟩ #[(.int x0)] h0 (OwnQ (some (.int (fPick x0))) h0 n0) := by
  refine bo (plainFor_of_name pn_0) ?_
  intro p e s m below meth c T0 G C hnm hnamed X0 e0 K
  have N0 := Fr.nil n0
  refine Goes.to (congrArg T0.setTop (ef_1i m x0)) ?_
  refine g_iloadN C X0 d1_0 1 rfl ?_
  refine g_bipush C X0 d1_1 3 (v := 7) rfl ?_
  refine g_iand C X0 d1_3 4 ?_
  refine g_istoreN C X0 d1_4 5 (w := (x0 &&& (7 : Int32))) rfl (ls' := #[iv x0, iv (x0 &&& (7 : Int32))]) rfl ?_
  refine g_iloadN C X0 d1_5 6 rfl ?_
  refine g_if_ne C X0 d1_6 12 9 (fun hc6 => ?_) (fun hc6 => ?_)
  · refine g_iloadN C X0 d1_12 13 rfl ?_
    refine g_iconst C X0 d1_13 14 (v := 1) rfl ?_
    refine g_icmp_ne C X0 d1_14 20 17 (fun hc14 => ?_) (fun hc14 => ?_)
    · refine g_iloadN C X0 d1_20 21 rfl ?_
      refine g_iconst C X0 d1_21 22 (v := 2) rfl ?_
      refine g_icmp_ne C X0 d1_22 28 25 (fun hc22 => ?_) (fun hc22 => ?_)
      · refine g_iloadN C X0 d1_28 29 rfl ?_
        refine g_iconst C X0 d1_29 30 (v := 3) rfl ?_
        refine g_icmp_ne C X0 d1_30 36 33 (fun hc30 => ?_) (fun hc30 => ?_)
        · refine g_iloadN C X0 d1_36 37 rfl ?_
          refine g_iconst C X0 d1_37 38 (v := 3) rfl ?_
          refine g_iushr C X0 d1_38 39 ?_
          refine g_sipush C X0 d1_39 42 (v := 255) rfl ?_
          refine g_iand C X0 d1_42 43 ?_
          refine g_i2c C X0 d1_43 44 ?_
          exact g_retN C X0 K (by simp) d1_44 (by decide) (by decide) e0 ⟨by (unfold fPick; rw [if_neg hc6, if_neg hc14, if_neg hc22, if_neg hc30]) <;> rfl, N0, rfl⟩
        · refine g_bipush C X0 d1_33 35 (v := 10) rfl ?_
          exact g_retN C X0 K (by simp) d1_35 (by decide) (by decide) e0 ⟨by (unfold fPick; rw [if_neg hc6, if_neg hc14, if_neg hc22, if_pos hc30]) <;> rfl, N0, rfl⟩
      · refine g_bipush C X0 d1_25 27 (v := 13) rfl ?_
        exact g_retN C X0 K (by simp) d1_27 (by decide) (by decide) e0 ⟨by (unfold fPick; rw [if_neg hc6, if_neg hc14, if_pos hc22]) <;> rfl, N0, rfl⟩
    · refine g_bipush C X0 d1_17 19 (v := 9) rfl ?_
      exact g_retN C X0 K (by simp) d1_19 (by decide) (by decide) e0 ⟨by (unfold fPick; rw [if_neg hc6, if_pos hc14]) <;> rfl, N0, rfl⟩
  · refine g_bipush C X0 d1_9 11 (v := 32) rfl ?_
    exact g_retN C X0 K (by simp) d1_11 (by decide) (by decide) e0 ⟨by (unfold fPick; rw [if_pos hc6]) <;> rfl, N0, rfl⟩
theorem ef_15i (m : MethodId) (a1 : Int32) : entryFrame m #[(.int a1)] 1 = mkF m 0 #[iv a1] [] := by first | (simp [entryFrame, mkF, argsToLocals, Value.category, iv, rv, jv, nv, uu, sd]; done) | rfl
theorem d15_0 : decode method_3_code 0 = .ok (.iload_n 0, 1) := by decide +kernel
theorem d15_1 : decode method_3_code 1 = .ok (.bipush 32, 2) := by decide +kernel
theorem d15_3 : decode method_3_code 3 = .ok (.if_icmp .eq 21, 3) := by decide +kernel
theorem d15_24 : decode method_3_code 24 = .ok (.iconst 1, 1) := by decide +kernel
theorem d15_25 : decode method_3_code 25 = .ok (.goto 4, 3) := by decide +kernel
theorem d15_29 : decode method_3_code 29 = .ok (.ireturn, 1) := by decide +kernel
theorem d15_6 : decode method_3_code 6 = .ok (.iload_n 0, 1) := by decide +kernel
theorem d15_7 : decode method_3_code 7 = .ok (.bipush 9, 2) := by decide +kernel
theorem d15_9 : decode method_3_code 9 = .ok (.if_icmp .eq 15, 3) := by decide +kernel
theorem d15_12 : decode method_3_code 12 = .ok (.iload_n 0, 1) := by decide +kernel
theorem d15_13 : decode method_3_code 13 = .ok (.bipush 13, 2) := by decide +kernel
theorem d15_15 : decode method_3_code 15 = .ok (.if_icmp .eq 9, 3) := by decide +kernel
theorem d15_18 : decode method_3_code 18 = .ok (.iload_n 0, 1) := by decide +kernel
theorem d15_19 : decode method_3_code 19 = .ok (.bipush 10, 2) := by decide +kernel
theorem d15_21 : decode method_3_code 21 = .ok (.if_icmp .ne 7, 3) := by decide +kernel
theorem d15_28 : decode method_3_code 28 = .ok (.iconst 0, 1) := by decide +kernel
def fSp (x0 : Int32) : Int32 := if x0 = (32 : Int32) then (1 : Int32) else if x0 = (9 : Int32) then (1 : Int32) else if x0 = (13 : Int32) then (1 : Int32) else if x0 = (10 : Int32) then (1 : Int32) else (0 : Int32)
abbrev y15 : MethodName := (⟨"com/example/firer/firer/formats/XmlSpaceTrimPinLaw", "sp", "(C)Z"⟩ : MethodName)
theorem rm15 {x0 : Int32} (hw : OwnW a0 Z) (Z0 : n0 ≤ h0.size) : OwnMF l Z y15 method_3_code 1 (some .boolean) ws ⟨0, 0, 0, 0⟩ #[(.int x0)] h0 (OwnQ (some (.int (fSp x0))) h0 n0) := by
  refine bo (plainFor_of_name pn_0) ?_
  intro p e s m below meth c T0 G C hnm hnamed X0 e0 K
  have N0 := Fr.nil n0
  refine Goes.to (congrArg T0.setTop (ef_15i m x0)) ?_
  refine g_iloadN C X0 d15_0 1 rfl ?_
  refine g_bipush C X0 d15_1 3 (v := 32) rfl ?_
  refine g_icmp_eq C X0 d15_3 24 6 (fun hc3 => ?_) (fun hc3 => ?_)
  · refine g_iconst C X0 d15_24 25 (v := 1) rfl ?_
    refine g_goto C X0 d15_25 29 ?_
    exact g_retN C X0 K (by simp) d15_29 (by decide) (by decide) e0 ⟨by (unfold fSp; rw [if_pos hc3]) <;> rfl, N0, rfl⟩
  · refine g_iloadN C X0 d15_6 7 rfl ?_
    refine g_bipush C X0 d15_7 9 (v := 9) rfl ?_
    refine g_icmp_eq C X0 d15_9 24 12 (fun hc9 => ?_) (fun hc9 => ?_)
    · refine g_iconst C X0 d15_24 25 (v := 1) rfl ?_
      refine g_goto C X0 d15_25 29 ?_
      exact g_retN C X0 K (by simp) d15_29 (by decide) (by decide) e0 ⟨by (unfold fSp; rw [if_neg hc3, if_pos hc9]) <;> rfl, N0, rfl⟩
    · refine g_iloadN C X0 d15_12 13 rfl ?_
      refine g_bipush C X0 d15_13 15 (v := 13) rfl ?_
      refine g_icmp_eq C X0 d15_15 24 18 (fun hc15 => ?_) (fun hc15 => ?_)
      · refine g_iconst C X0 d15_24 25 (v := 1) rfl ?_
        refine g_goto C X0 d15_25 29 ?_
        exact g_retN C X0 K (by simp) d15_29 (by decide) (by decide) e0 ⟨by (unfold fSp; rw [if_neg hc3, if_neg hc9, if_pos hc15]) <;> rfl, N0, rfl⟩
      · refine g_iloadN C X0 d15_18 19 rfl ?_
        refine g_bipush C X0 d15_19 21 (v := 10) rfl ?_
        refine g_icmp_ne C X0 d15_21 28 24 (fun hc21 => ?_) (fun hc21 => ?_)
        · refine g_iconst C X0 d15_28 29 (v := 0) rfl ?_
          exact g_retN C X0 K (by simp) d15_29 (by decide) (by decide) e0 ⟨by (unfold fSp; rw [if_neg hc3, if_neg hc9, if_neg hc15, if_neg hc21]) <;> rfl, N0, rfl⟩
        · refine g_iconst C X0 d15_24 25 (v := 1) rfl ?_
          refine g_goto C X0 d15_25 29 ?_
          exact g_retN C X0 K (by simp) d15_29 (by decide) (by decide) e0 ⟨by (unfold fSp; rw [if_neg hc3, if_neg hc9, if_neg hc15, if_pos hc21]) <;> rfl, N0, rfl⟩
theorem ef_21i (m : MethodId) (a1 : Int32) : entryFrame m #[(.int a1)] 1 = mkF m 0 #[iv a1] [] := by first | (simp [entryFrame, mkF, argsToLocals, Value.category, iv, rv, jv, nv, uu, sd]; done) | rfl
theorem d21_0 : decode prog_35_method_3_code 0 = .ok (.iload_n 0, 1) := by decide +kernel
theorem d21_1 : decode prog_35_method_3_code 1 = .ok (.bipush 32, 2) := by decide +kernel
theorem d21_3 : decode prog_35_method_3_code 3 = .ok (.if_icmp .eq 21, 3) := by decide +kernel
theorem d21_24 : decode prog_35_method_3_code 24 = .ok (.iconst 1, 1) := by decide +kernel
theorem d21_25 : decode prog_35_method_3_code 25 = .ok (.goto 4, 3) := by decide +kernel
theorem d21_29 : decode prog_35_method_3_code 29 = .ok (.ireturn, 1) := by decide +kernel
theorem d21_6 : decode prog_35_method_3_code 6 = .ok (.iload_n 0, 1) := by decide +kernel
theorem d21_7 : decode prog_35_method_3_code 7 = .ok (.bipush 9, 2) := by decide +kernel
theorem d21_9 : decode prog_35_method_3_code 9 = .ok (.if_icmp .eq 15, 3) := by decide +kernel
theorem d21_12 : decode prog_35_method_3_code 12 = .ok (.iload_n 0, 1) := by decide +kernel
theorem d21_13 : decode prog_35_method_3_code 13 = .ok (.bipush 13, 2) := by decide +kernel
theorem d21_15 : decode prog_35_method_3_code 15 = .ok (.if_icmp .eq 9, 3) := by decide +kernel
theorem d21_18 : decode prog_35_method_3_code 18 = .ok (.iload_n 0, 1) := by decide +kernel
theorem d21_19 : decode prog_35_method_3_code 19 = .ok (.bipush 10, 2) := by decide +kernel
theorem d21_21 : decode prog_35_method_3_code 21 = .ok (.if_icmp .ne 7, 3) := by decide +kernel
theorem d21_28 : decode prog_35_method_3_code 28 = .ok (.iconst 0, 1) := by decide +kernel
def fIs (x0 : Int32) : Int32 := if x0 = (32 : Int32) then (1 : Int32) else if x0 = (9 : Int32) then (1 : Int32) else if x0 = (13 : Int32) then (1 : Int32) else if x0 = (10 : Int32) then (1 : Int32) else (0 : Int32)
abbrev y21 : MethodName := (⟨"com/example/firer/firer/formats/XmlSpace", "isSpace", "(C)Z"⟩ : MethodName)
theorem pn_6 : plainName "com/example/firer/firer/formats/XmlSpace" = true := by first | (simp [plainName, overriddenIn]; done) | decide +kernel
theorem rm21 {x0 : Int32} (hw : OwnW a0 Z) (Z0 : n0 ≤ h0.size) : OwnMF l Z y21 prog_35_method_3_code 1 (some .boolean) ws ⟨0, 0, 0, 0⟩ #[(.int x0)] h0 (OwnQ (some (.int (fIs x0))) h0 n0) := by
  refine bo (plainFor_of_name pn_6) ?_
  intro p e s m below meth c T0 G C hnm hnamed X0 e0 K
  have N0 := Fr.nil n0
  refine Goes.to (congrArg T0.setTop (ef_21i m x0)) ?_
  refine g_iloadN C X0 d21_0 1 rfl ?_
  refine g_bipush C X0 d21_1 3 (v := 32) rfl ?_
  refine g_icmp_eq C X0 d21_3 24 6 (fun hc3 => ?_) (fun hc3 => ?_)
  · refine g_iconst C X0 d21_24 25 (v := 1) rfl ?_
    refine g_goto C X0 d21_25 29 ?_
    exact g_retN C X0 K (by simp) d21_29 (by decide) (by decide) e0 ⟨by (unfold fIs; rw [if_pos hc3]) <;> rfl, N0, rfl⟩
  · refine g_iloadN C X0 d21_6 7 rfl ?_
    refine g_bipush C X0 d21_7 9 (v := 9) rfl ?_
    refine g_icmp_eq C X0 d21_9 24 12 (fun hc9 => ?_) (fun hc9 => ?_)
    · refine g_iconst C X0 d21_24 25 (v := 1) rfl ?_
      refine g_goto C X0 d21_25 29 ?_
      exact g_retN C X0 K (by simp) d21_29 (by decide) (by decide) e0 ⟨by (unfold fIs; rw [if_neg hc3, if_pos hc9]) <;> rfl, N0, rfl⟩
    · refine g_iloadN C X0 d21_12 13 rfl ?_
      refine g_bipush C X0 d21_13 15 (v := 13) rfl ?_
      refine g_icmp_eq C X0 d21_15 24 18 (fun hc15 => ?_) (fun hc15 => ?_)
      · refine g_iconst C X0 d21_24 25 (v := 1) rfl ?_
        refine g_goto C X0 d21_25 29 ?_
        exact g_retN C X0 K (by simp) d21_29 (by decide) (by decide) e0 ⟨by (unfold fIs; rw [if_neg hc3, if_neg hc9, if_pos hc15]) <;> rfl, N0, rfl⟩
      · refine g_iloadN C X0 d21_18 19 rfl ?_
        refine g_bipush C X0 d21_19 21 (v := 10) rfl ?_
        refine g_icmp_ne C X0 d21_21 28 24 (fun hc21 => ?_) (fun hc21 => ?_)
        · refine g_iconst C X0 d21_28 29 (v := 0) rfl ?_
          exact g_retN C X0 K (by simp) d21_29 (by decide) (by decide) e0 ⟨by (unfold fIs; rw [if_neg hc3, if_neg hc9, if_neg hc15, if_neg hc21]) <;> rfl, N0, rfl⟩
        · refine g_iconst C X0 d21_24 25 (v := 1) rfl ?_
          refine g_goto C X0 d21_25 29 ?_
          exact g_retN C X0 K (by simp) d21_29 (by decide) (by decide) e0 ⟨by (unfold fIs; rw [if_neg hc3, if_neg hc9, if_neg hc15, if_pos hc21]) <;> rfl, N0, rfl⟩
theorem ef_5ii (m : MethodId) (a1 : Int32) (a2 : Int32) : entryFrame m #[(.int a1), (.int a2)] 2 = mkF m 0 #[iv a1, iv a2] [] := by first | (simp [entryFrame, mkF, argsToLocals, Value.category, iv, rv, jv, nv, uu, sd]; done) | rfl
theorem d5_0 : decode jdk_29_method_65_code 0 = .ok (.iload_n 0, 1) := by decide +kernel
theorem d5_1 : decode jdk_29_method_65_code 1 = .ok (.iload_n 1, 1) := by decide +kernel
theorem d5_2 : decode jdk_29_method_65_code 2 = .ok (.if_icmp .lt 7, 3) := by decide +kernel
theorem d5_9 : decode jdk_29_method_65_code 9 = .ok (.iload_n 1, 1) := by decide +kernel
theorem d5_10 : decode jdk_29_method_65_code 10 = .ok (.ireturn, 1) := by decide +kernel
theorem d5_5 : decode jdk_29_method_65_code 5 = .ok (.iload_n 0, 1) := by decide +kernel
theorem d5_6 : decode jdk_29_method_65_code 6 = .ok (.goto 4, 3) := by decide +kernel
def fMax (x0 : Int32) (x1 : Int32) : Int32 := if x0 < x1 then x1 else x0
abbrev y5 : MethodName := (⟨"java/lang/Math", "max", "(II)I"⟩ : MethodName)
theorem rm5 {x0 x1 : Int32} (hw : OwnW a0 Z) (Z0 : n0 ≤ h0.size) : OwnMF l Z y5 jdk_29_method_65_code 2 (some .int) ws ⟨0, 0, 0, 0⟩ #[(.int x0), (.int x1)] h0 (OwnQ (some (.int (fMax x0 x1))) h0 n0) := by
  refine bo (Jvm.Free.JP.mathPlain rfl (by decide +kernel)) ?_
  intro p e s m below meth c T0 G C hnm hnamed X0 e0 K
  have N0 := Fr.nil n0
  refine Goes.to (congrArg T0.setTop (ef_5ii m x0 x1)) ?_
  refine g_iloadN C X0 d5_0 1 rfl ?_
  refine g_iloadN C X0 d5_1 2 rfl ?_
  refine g_icmp_lt C X0 d5_2 9 5 (fun hc2 => ?_) (fun hc2 => ?_)
  · refine g_iloadN C X0 d5_9 10 rfl ?_
    exact g_retI C X0 K d5_10 (by decide) (by decide) e0 ⟨by (unfold fMax; rw [if_pos hc2]) <;> rfl, N0, rfl⟩
  · refine g_iloadN C X0 d5_5 6 rfl ?_
    refine g_goto C X0 d5_6 10 ?_
    exact g_retI C X0 K d5_10 (by decide) (by decide) e0 ⟨by (unfold fMax; rw [if_neg hc2]) <;> rfl, N0, rfl⟩
theorem ef_26ii (m : MethodId) (a1 : Int32) (a2 : Int32) : entryFrame m #[(.int a1), (.int a2)] 2 = mkF m 0 #[iv a1, iv a2] [] := by first | (simp [entryFrame, mkF, argsToLocals, Value.category, iv, rv, jv, nv, uu, sd]; done) | rfl
theorem d26_0 : decode jdk_29_method_69_code 0 = .ok (.iload_n 0, 1) := by decide +kernel
theorem d26_1 : decode jdk_29_method_69_code 1 = .ok (.iload_n 1, 1) := by decide +kernel
theorem d26_2 : decode jdk_29_method_69_code 2 = .ok (.if_icmp .gt 7, 3) := by decide +kernel
theorem d26_9 : decode jdk_29_method_69_code 9 = .ok (.iload_n 1, 1) := by decide +kernel
theorem d26_10 : decode jdk_29_method_69_code 10 = .ok (.ireturn, 1) := by decide +kernel
theorem d26_5 : decode jdk_29_method_69_code 5 = .ok (.iload_n 0, 1) := by decide +kernel
theorem d26_6 : decode jdk_29_method_69_code 6 = .ok (.goto 4, 3) := by decide +kernel
def fMin (x0 : Int32) (x1 : Int32) : Int32 := if x1 < x0 then x1 else x0
abbrev y26 : MethodName := (⟨"java/lang/Math", "min", "(II)I"⟩ : MethodName)
theorem rm26 {x0 x1 : Int32} (hw : OwnW a0 Z) (Z0 : n0 ≤ h0.size) : OwnMF l Z y26 jdk_29_method_69_code 2 (some .int) ws ⟨0, 0, 0, 0⟩ #[(.int x0), (.int x1)] h0 (OwnQ (some (.int (fMin x0 x1))) h0 n0) := by
  refine bo (Jvm.Free.JP.mathPlain rfl (by decide +kernel)) ?_
  intro p e s m below meth c T0 G C hnm hnamed X0 e0 K
  have N0 := Fr.nil n0
  refine Goes.to (congrArg T0.setTop (ef_26ii m x0 x1)) ?_
  refine g_iloadN C X0 d26_0 1 rfl ?_
  refine g_iloadN C X0 d26_1 2 rfl ?_
  refine g_icmp_gt C X0 d26_2 9 5 (fun hc2 => ?_) (fun hc2 => ?_)
  · refine g_iloadN C X0 d26_9 10 rfl ?_
    exact g_retI C X0 K d26_10 (by decide) (by decide) e0 ⟨by (unfold fMin; rw [if_pos hc2]) <;> rfl, N0, rfl⟩
  · refine g_iloadN C X0 d26_5 6 rfl ?_
    refine g_goto C X0 d26_6 10 ?_
    exact g_retI C X0 K d26_10 (by decide) (by decide) e0 ⟨by (unfold fMin; rw [if_neg hc2]) <;> rfl, N0, rfl⟩
theorem own_k : own_lat (nar .char 32) ∧ own_lat (nar .char 9) ∧ own_lat (nar .char 13) ∧ own_lat (nar .char 10) := by unfold own_lat; decide
theorem own_pick (x : Int32) : own_lat (fPick x) := by
  unfold fPick
  split
  · exact own_k.1
  · split
    · exact own_k.2.1
    · split
      · exact own_k.2.2.1
      · split
        · exact own_k.2.2.2
        · rw [own_narc (own_c255 _)]; exact own_c255 _
theorem own_is (x : Int32) : fIs x = fSp x := rfl
theorem own_pk {x v : Int32} (h : fPick x = v) : own_lat v := h ▸ own_pick x
theorem own_le {c : Int32} (h : own_lat c) : ¬ (255 : Int32) < nar .char c := by rw [own_narc h]; exact h.2
theorem own_back {c : Int32} (h : own_lat c) : own_ch (nar .byte (nar .char c).toInt8.toInt32) = c := by rw [own_narc h]; exact own_ch_of h
theorem own_eq {c : Int32} (h : own_lat c) : own_ch (nar .byte (nar .char c).toInt8.toInt32) = nar .char c := by rw [own_narc h]; exact own_ch_of h
theorem own_s0 {c r : Int32} (h : own_lat c) (hr : fSp c = r) (h0 : r = 0) : fIs (own_ch (nar .byte (nar .char c).toInt8.toInt32)) = 0 := by rw [own_back h, own_is, hr, h0]
theorem own_s1 {c r : Int32} (h : own_lat c) (hr : fSp c = r) (h0 : ¬ r = 0) : ¬ fIs (own_ch (nar .byte (nar .char c).toInt8.toInt32)) = 0 := by rw [own_back h, own_is, hr]; exact h0
theorem own_r5 {x v : Int32} (h : (x &&& 2147483647) % 5 = v) : v = 0 ∨ v = 1 ∨ v = 2 ∨ v = 3 ∨ v = 4 := by
  have e0 : (x &&& 2147483647 : Int32).toInt = x.toInt % 2 ^ 31 := Jvm.Kit.i32_mask x 2147483647 (k := 31) (by decide) (by decide)
  have e1 : ((x &&& 2147483647) % 5 : Int32).toInt = (x &&& 2147483647 : Int32).toInt % (5 : Int32).toInt := Jvm.Kit.i32_rem_nonneg (by omega)
  have e3 : (5 : Int32).toInt = 5 := by decide
  rw [h, e3] at e1
  have d0 : (0 : Int32).toInt = 0 := by decide
  have d1 : (1 : Int32).toInt = 1 := by decide
  have d2 : (2 : Int32).toInt = 2 := by decide
  have d3 : (3 : Int32).toInt = 3 := by decide
  have d4 : (4 : Int32).toInt = 4 := by decide
  simp only [← Int32.toInt_inj]; omega
theorem ef_27rri (m : MethodId) (a1 : Addr) (a2 : Addr) (a3 : Int32) : entryFrame m #[(.ref a1), (.ref a2), (.int a3)] 3 = mkF m 0 #[rv a1, rv a2, iv a3] [] := by first | (simp [entryFrame, mkF, argsToLocals, Value.category, iv, rv, jv, nv, uu, sd]; done) | rfl
theorem d27_0 : decode jdk_42_method_151_code 0 = .ok (.aload_n 0, 1) := by decide +kernel
theorem d27_1 : decode jdk_42_method_151_code 1 = .ok (.invokespecial 1, 3) := by decide +kernel
theorem w_16 {Z : State} {a0 : Array Value} (hw : ∀ d ∈ tables_1, d.before a0 Z = true) : Jvm.Cond.before (Jvm.Cond.methodLink "java/lang/String" (1 : Nat) ({ cls := "java/lang/Object", name := "<init>", desc := "()V" } : Jvm.MethodName)) a0 Z = true := hw _ (List.mem_of_getElem? (i := 16) rfl)
theorem w_17 {Z : State} {a0 : Array Value} (hw : ∀ d ∈ tables_1, d.before a0 Z = true) : Jvm.Cond.before (Jvm.Cond.instanceMethod ({ cls := "java/lang/Object", name := "<init>", desc := "()V" } : Jvm.MethodName)) a0 Z = true := hw _ (List.mem_of_getElem? (i := 17) rfl)
theorem w_18 {Z : State} {a0 : Array Value} (hw : ∀ d ∈ tables_1, d.before a0 Z = true) : Jvm.Cond.before (Jvm.Cond.code ({ cls := "java/lang/Object", name := "<init>", desc := "()V" } : Jvm.MethodName) object_method_1_code (1 : Nat) (Option.none : Option Jvm.ClassFile.FieldType)) a0 Z = true := hw _ (List.mem_of_getElem? (i := 18) rfl)
theorem d27_4 : decode jdk_42_method_151_code 4 = .ok (.aload_n 0, 1) := by decide +kernel
theorem d27_5 : decode jdk_42_method_151_code 5 = .ok (.aload_n 1, 1) := by decide +kernel
theorem d27_6 : decode jdk_42_method_151_code 6 = .ok (.putfield 9, 3) := by decide +kernel
theorem w_21 {Z : State} {a0 : Array Value} (hw : ∀ d ∈ tables_1, d.before a0 Z = true) : Jvm.Cond.before (Jvm.Cond.laysFinal "java/lang/String" "java/lang/String" "value" "[B") a0 Z = true := hw _ (List.mem_of_getElem? (i := 21) rfl)
theorem w_25 {Z : State} {a0 : Array Value} (hw : ∀ d ∈ tables_1, d.before a0 Z = true) : Jvm.Cond.before (Jvm.Cond.fieldLink "java/lang/String" (9 : Nat) "java/lang/String" "value" "[B") a0 Z = true := hw _ (List.mem_of_getElem? (i := 25) rfl)
theorem w_7 {Z : State} {a0 : Array Value} (hw : ∀ d ∈ tables_1, d.before a0 Z = true) : Jvm.Cond.before (Jvm.Cond.instantiable "java/lang/String" (4 : Nat)) a0 Z = true := hw _ (List.mem_of_getElem? (i := 7) rfl)
theorem w_22 {Z : State} {a0 : Array Value} (hw : ∀ d ∈ tables_1, d.before a0 Z = true) : Jvm.Cond.before (Jvm.Cond.laysFinal "java/lang/String" "java/lang/String" "coder" "B") a0 Z = true := hw _ (List.mem_of_getElem? (i := 22) rfl)
theorem d27_9 : decode jdk_42_method_151_code 9 = .ok (.aload_n 0, 1) := by decide +kernel
theorem d27_10 : decode jdk_42_method_151_code 10 = .ok (.iload_n 2, 1) := by decide +kernel
theorem d27_11 : decode jdk_42_method_151_code 11 = .ok (.putfield 15, 3) := by decide +kernel
theorem w_26 {Z : State} {a0 : Array Value} (hw : ∀ d ∈ tables_1, d.before a0 Z = true) : Jvm.Cond.before (Jvm.Cond.fieldLink "java/lang/String" (15 : Nat) "java/lang/String" "coder" "B") a0 Z = true := hw _ (List.mem_of_getElem? (i := 26) rfl)
theorem d27_14 : decode jdk_42_method_151_code 14 = .ok (.return_, 1) := by decide +kernel
def Q27 (Z : State) (o1 : Addr) (o2 : Addr) (h0 : Heap) (n0 : Nat) (v : Option Value) (h : Heap) (L : List Loc) : Prop := v = none ∧ Fr n0 L ∧ Keep h0 h [o1] ∧ OEs Z h o1 ∧ OFv Z h o1 (.ref o2) ∧ OFc Z h o1
abbrev y27 : MethodName := (⟨"java/lang/String", "<init>", "([BB)V"⟩ : MethodName)
theorem pn_2 : plainName "java/lang/String" = true := by first | (simp [plainName, overriddenIn]; done) | decide +kernel
theorem rm27 {o1 o2 : Addr} (hw : OwnW a0 Z) (Z0 : n0 ≤ h0.size) (F0 : OEs Z h0 o1) (F1 : OFv Z h0 o1 .null) (F2 : OFc Z h0 o1) (gn_o1 : n0 ≤ o1) : OwnMF l Z y27 jdk_42_method_151_code 3 none ws ⟨1, 0, 0, 12⟩ #[(.ref o1), (.ref o2), (.int 0)] h0 (Q27 Z o1 o2 h0 n0) := by
  refine bo (plainFor_of_name pn_2) ?_
  intro p e s m below meth c T0 G C hnm hnamed X0 e0 K
  have N0 := Fr.nil n0
  refine Goes.to (congrArg T0.setTop (ef_27rri m o1 o2 (0 : Int32))) ?_
  have K00 := Keep.refl h0 [o1]
  refine g_aloadN C X0 d27_0 1 rfl rfl ?_
  refine g_initO C X0 (w_16 hw) (w_17 hw) (w_18 hw) e0 rfl d27_1 4 (by decide) (W := 0) (Nat.le_of_eq rfl) (by decide) (fun T1 X1 e1 => ?_)
  refine g_aloadN C X1 d27_4 5 rfl rfl ?_
  refine g_aloadN C X1 d27_5 6 rfl rfl ?_
  refine g_putF C X1 (w_25 hw) Via.refl e1 F1 F0 (Or.inr ⟨(w_21 hw), rfl, hnm⟩) (w_7 hw) (ty := (.array .byte)) (by decide) rfl rfl d27_6 9 (fun T2 h2 X2 e2 W2 => ?_)
  have f3 := F0.wr W2
  have f4 := F1.same W2
  have f5 := F2.other W2 (Or.inr (slot_ne (Or.inr (w_22 hw)) (Or.inr (w_21 hw)) (by decide) (t := .byte) (t' := (.array .byte)) (by decide) (by decide)))
  have N2 := Fr.snoc X2 N0 gn_o1
  have K2 := K00.wr W2 (Or.inl (List.mem_of_getElem? (i := 0) rfl))
  refine g_aloadN C X2 d27_9 10 rfl rfl ?_
  refine g_iloadN C X2 d27_10 11 rfl ?_
  refine g_putFN C X2 (w_26 hw) Via.refl e2 f5 f3 (Or.inr ⟨(w_22 hw), rfl, hnm⟩) (w_7 hw) (ty := .byte) (by decide) (v' := (.int 0)) (by decide) (by decide) d27_11 14 (fun T6 h6 X6 e6 W6 => ?_)
  have f7 := f3.wr W6
  have f8 := f4.other W6 (Or.inr (slot_ne (Or.inr (w_21 hw)) (Or.inr (w_22 hw)) (by decide) (t := (.array .byte)) (t' := .byte) (by decide) (by decide)))
  have f9 := f5.same W6
  have N6 := Fr.snoc X6 N2 gn_o1
  have K6 := K2.wr W6 (Or.inl (List.mem_of_getElem? (i := 0) rfl))
  exact g_retV C X6 K d27_14 (by decide) (by decide) e6 ⟨rfl, N6, K6, f7, f8, f9⟩
theorem ef_17r (m : MethodId) (a1 : Addr) : entryFrame m #[(.ref a1)] 1 = mkF m 0 #[rv a1] [] := by first | (simp [entryFrame, mkF, argsToLocals, Value.category, iv, rv, jv, nv, uu, sd]; done) | rfl
theorem d17_0 : decode jdk_42_method_154_code 0 = .ok (.getstatic 38, 3) := by decide +kernel
theorem w_45 {Z : State} {a0 : Array Value} (hw : ∀ d ∈ tables_1, d.before a0 Z = true) : Jvm.Cond.before (Jvm.Cond.fieldLink "java/lang/String" (38 : Nat) "java/lang/String" "COMPACT_STRINGS" "Z") a0 Z = true := hw _ (List.mem_of_getElem? (i := 45) rfl)
theorem d17_3 : decode jdk_42_method_154_code 3 = .ok (.ifCond .eq 14, 3) := by decide +kernel
theorem d17_6 : decode jdk_42_method_154_code 6 = .ok (.aload_n 0, 1) := by decide +kernel
theorem d17_7 : decode jdk_42_method_154_code 7 = .ok (.getfield 15, 3) := by decide +kernel
theorem d17_10 : decode jdk_42_method_154_code 10 = .ok (.ifCond .ne 7, 3) := by decide +kernel
theorem d17_13 : decode jdk_42_method_154_code 13 = .ok (.iconst 1, 1) := by decide +kernel
theorem d17_14 : decode jdk_42_method_154_code 14 = .ok (.goto 4, 3) := by decide +kernel
theorem d17_18 : decode jdk_42_method_154_code 18 = .ok (.ireturn, 1) := by decide +kernel
abbrev y17 : MethodName := (⟨"java/lang/String", "isLatin1", "()Z"⟩ : MethodName)
theorem rm17 {o1 : Addr} {cs1 : Int32} (hw : OwnW a0 Z) (Z0 : n0 ≤ h0.size) (F0 : OFc Z h0 o1) (F1 : OSc Z h0 cs1) (hcs : ¬ cs1 = (0 : Int32)) : OwnMF l Z y17 jdk_42_method_154_code 1 (some .boolean) ws ⟨0, 0, 0, 0⟩ #[(.ref o1)] h0 (OwnQ (some (.int 1)) h0 n0) := by
  refine bo (plainFor_of_name pn_2) ?_
  intro p e s m below meth c T0 G C hnm hnamed X0 e0 K
  have N0 := Fr.nil n0
  refine Goes.to (congrArg T0.setTop (ef_17r m o1)) ?_
  refine g_getS C X0 (w_45 hw) Via.refl e0 F1 d17_0 3 (fun T1 X1 e1 => ?_)
  refine g_if_eq C X1 d17_3 17 6 (fun hc3 => absurd hc3 hcs) (fun hc3 => ?_)
  refine g_aloadN C X1 d17_6 7 rfl rfl ?_
  refine g_getF C X1 (w_26 hw) Via.refl e1 F0 d17_7 10 (fun T2 X2 e2 => ?_)
  refine g_if_ne C X2 d17_10 17 13 (fun hc10 => absurd hc10 (by decide)) (fun hc10 => ?_)
  refine g_iconst C X2 d17_13 14 (v := 1) rfl ?_
  refine g_goto C X2 d17_14 18 ?_
  exact g_retN C X2 K (by simp) d17_18 (by decide) (by decide) e2 ⟨rfl, N0, rfl⟩
theorem ef_20iin (m : MethodId) (a1 : Int32) (a2 : Int32) : entryFrame m #[(.int a1), (.int a2), .null] 3 = mkF m 0 #[iv a1, iv a2, nv] [] := by first | (simp [entryFrame, mkF, argsToLocals, Value.category, iv, rv, jv, nv, uu, sd]; done) | rfl
theorem d20_0 : decode jdk_41_method_11_code 0 = .ok (.iload_n 0, 1) := by decide +kernel
theorem d20_1 : decode jdk_41_method_11_code 1 = .ok (.ifCond .lt 8, 3) := by decide +kernel
theorem d20_4 : decode jdk_41_method_11_code 4 = .ok (.iload_n 0, 1) := by decide +kernel
theorem d20_5 : decode jdk_41_method_11_code 5 = .ok (.iload_n 1, 1) := by decide +kernel
theorem d20_6 : decode jdk_41_method_11_code 6 = .ok (.if_icmp .lt 10, 3) := by decide +kernel
theorem d20_16 : decode jdk_41_method_11_code 16 = .ok (.iload_n 0, 1) := by decide +kernel
theorem d20_17 : decode jdk_41_method_11_code 17 = .ok (.ireturn, 1) := by decide +kernel
abbrev y20 : MethodName := (⟨"jdk/internal/util/Preconditions", "checkIndex", "(IILjava/util/function/BiFunction;)I"⟩ : MethodName)
theorem pn_11 : plainName "jdk/internal/util/Preconditions" = true := by first | (simp [plainName, overriddenIn]; done) | decide +kernel
theorem rm20_1_0n  (hw : OwnW a0 Z) (Z0 : n0 ≤ h0.size) : OwnMF l Z y20 jdk_41_method_11_code 3 (some .int) ws ⟨0, 0, 0, 0⟩ #[(.int 0), (.int 1), .null] h0 (OwnQ (some (.int 0)) h0 n0) := by
  refine bo (plainFor_of_name pn_11) ?_
  intro p e s m below meth c T0 G C hnm hnamed X0 e0 K
  have N0 := Fr.nil n0
  refine Goes.to (congrArg T0.setTop (ef_20iin m (0 : Int32) (1 : Int32))) ?_
  refine g_iloadN C X0 d20_0 1 rfl ?_
  refine g_if_lt C X0 d20_1 9 4 (fun hc1 => absurd hc1 (by decide)) (fun hc1 => ?_)
  refine g_iloadN C X0 d20_4 5 rfl ?_
  refine g_iloadN C X0 d20_5 6 rfl ?_
  refine g_icmp_lt C X0 d20_6 16 9 (fun hc6 => ?_) (fun hc6 => absurd hc6 (by decide))
  refine g_iloadN C X0 d20_16 17 rfl ?_
  exact g_retI C X0 K d20_17 (by decide) (by decide) e0 ⟨rfl, N0, rfl⟩
theorem ef_20iir (m : MethodId) (a1 : Int32) (a2 : Int32) (a3 : Addr) : entryFrame m #[(.int a1), (.int a2), (.ref a3)] 3 = mkF m 0 #[iv a1, iv a2, rv a3] [] := by first | (simp [entryFrame, mkF, argsToLocals, Value.category, iv, rv, jv, nv, uu, sd]; done) | rfl
theorem rm20_1_0r {o1 : Addr} (hw : OwnW a0 Z) (Z0 : n0 ≤ h0.size) : OwnMF l Z y20 jdk_41_method_11_code 3 (some .int) ws ⟨0, 0, 0, 0⟩ #[(.int 0), (.int 1), (.ref o1)] h0 (OwnQ (some (.int 0)) h0 n0) := by
  refine bo (plainFor_of_name pn_11) ?_
  intro p e s m below meth c T0 G C hnm hnamed X0 e0 K
  have N0 := Fr.nil n0
  refine Goes.to (congrArg T0.setTop (ef_20iir m (0 : Int32) (1 : Int32) o1)) ?_
  refine g_iloadN C X0 d20_0 1 rfl ?_
  refine g_if_lt C X0 d20_1 9 4 (fun hc1 => absurd hc1 (by decide)) (fun hc1 => ?_)
  refine g_iloadN C X0 d20_4 5 rfl ?_
  refine g_iloadN C X0 d20_5 6 rfl ?_
  refine g_icmp_lt C X0 d20_6 16 9 (fun hc6 => ?_) (fun hc6 => absurd hc6 (by decide))
  refine g_iloadN C X0 d20_16 17 rfl ?_
  exact g_retI C X0 K d20_17 (by decide) (by decide) e0 ⟨rfl, N0, rfl⟩
theorem ef_19ii (m : MethodId) (a1 : Int32) (a2 : Int32) : entryFrame m #[(.int a1), (.int a2)] 2 = mkF m 0 #[iv a1, iv a2] [] := by first | (simp [entryFrame, mkF, argsToLocals, Value.category, iv, rv, jv, nv, uu, sd]; done) | rfl
theorem d19_0 : decode jdk_42_method_155_code 0 = .ok (.iload_n 0, 1) := by decide +kernel
theorem d19_1 : decode jdk_42_method_155_code 1 = .ok (.iload_n 1, 1) := by decide +kernel
theorem d19_2 : decode jdk_42_method_155_code 2 = .ok (.getstatic 1053, 3) := by decide +kernel
theorem w_55 {Z : State} {a0 : Array Value} (hw : ∀ d ∈ tables_1, d.before a0 Z = true) : Jvm.Cond.before (Jvm.Cond.fieldLink "java/lang/String" (1053 : Nat) "jdk/internal/util/Preconditions" "SIOOBE_FORMATTER" "Ljava/util/function/BiFunction;") a0 Z = true := hw _ (List.mem_of_getElem? (i := 55) rfl)
theorem d19_5 : decode jdk_42_method_155_code 5 = .ok (.invokestatic 1059, 3) := by decide +kernel
theorem w_93 {Z : State} {a0 : Array Value} (hw : ∀ d ∈ tables_1, d.before a0 Z = true) : Jvm.Cond.before (Jvm.Cond.code ({ cls := "jdk/internal/util/Preconditions", name := "checkIndex", desc := "(IILjava/util/function/BiFunction;)I" } : Jvm.MethodName) jdk_41_method_11_code (3 : Nat) (Option.some Jvm.ClassFile.FieldType.int)) a0 Z = true := hw _ (List.mem_of_getElem? (i := 93) rfl)
theorem w_56 {Z : State} {a0 : Array Value} (hw : ∀ d ∈ tables_1, d.before a0 Z = true) : Jvm.Cond.before (Jvm.Cond.initialized "jdk/internal/util/Preconditions") a0 Z = true := hw _ (List.mem_of_getElem? (i := 56) rfl)
theorem w_91 {Z : State} {a0 : Array Value} (hw : ∀ d ∈ tables_1, d.before a0 Z = true) : Jvm.Cond.before (Jvm.Cond.methodLink "java/lang/String" (1059 : Nat) ({ cls := "jdk/internal/util/Preconditions", name := "checkIndex", desc := "(IILjava/util/function/BiFunction;)I" } : Jvm.MethodName)) a0 Z = true := hw _ (List.mem_of_getElem? (i := 91) rfl)
theorem pd_0 : parseMethodDescriptor "(IILjava/util/function/BiFunction;)I" = some ⟨[.int, .int, (.object "java/util/function/BiFunction")], some .int⟩ := by decide +kernel
theorem w_92 {Z : State} {a0 : Array Value} (hw : ∀ d ∈ tables_1, d.before a0 Z = true) : Jvm.Cond.before (Jvm.Cond.static ({ cls := "jdk/internal/util/Preconditions", name := "checkIndex", desc := "(IILjava/util/function/BiFunction;)I" } : Jvm.MethodName)) a0 Z = true := hw _ (List.mem_of_getElem? (i := 92) rfl)
theorem b_0 (hw : OwnW a0 Z) : CallS "java/lang/String" 1059 (⟨"jdk/internal/util/Preconditions", "checkIndex", "(IILjava/util/function/BiFunction;)I"⟩ : MethodName) jdk_41_method_11_code (3 : Nat) (Option.some Jvm.ClassFile.FieldType.int) a0 Z := ⟨(w_91 hw), (w_92 hw), (w_56 hw), (w_93 hw)⟩
theorem d19_8 : decode jdk_42_method_155_code 8 = .ok (.pop, 1) := by decide +kernel
theorem d19_9 : decode jdk_42_method_155_code 9 = .ok (.return_, 1) := by decide +kernel
abbrev y19 : MethodName := (⟨"java/lang/String", "checkIndex", "(II)V"⟩ : MethodName)
theorem rm19_1_0 {wf1 : Value} (hw : OwnW a0 Z) (Z0 : n0 ≤ h0.size) (F0 : OSf Z h0 wf1) (hwf : wf1.isRef = true) : OwnMF l Z y19 jdk_42_method_155_code 2 none ws ⟨1, 0, 0, 14⟩ #[(.int 0), (.int 1)] h0 (OwnQ none h0 n0) := by
  refine bo (plainFor_of_name pn_2) ?_
  intro p e s m below meth c T0 G C hnm hnamed X0 e0 K
  have N0 := Fr.nil n0
  refine Goes.to (congrArg T0.setTop (ef_19ii m (0 : Int32) (1 : Int32))) ?_
  rcases ref_cases hwf with rfl | ⟨sa1, rfl⟩
  · refine g_iloadN C X0 d19_0 1 rfl ?_
    refine g_iloadN C X0 d19_1 2 rfl ?_
    refine g_getS C X0 (w_55 hw) Via.refl e0 F0 d19_2 5 (fun T2 X2 e2 => ?_)
    refine g_callS0 C X2 (b_0 hw) d19_5 [(.int 0), (.int 1), .null] [] 0 (rm20_1_0n hw Z0 ) N0 pd_0 e2 8 (fun T3 _ X3 N3 e3 => ?_)
    refine g_pop C X3 d19_8 9 rfl ?_
    exact g_retV C X3 K d19_9 (by decide) (by decide) e3 ⟨rfl, N3, rfl⟩
  · refine g_iloadN C X0 d19_0 1 rfl ?_
    refine g_iloadN C X0 d19_1 2 rfl ?_
    refine g_getS C X0 (w_55 hw) Via.refl e0 F0 d19_2 5 (fun T4 X4 e4 => ?_)
    refine g_callS0 C X4 (b_0 hw) d19_5 [(.int 0), (.int 1), (.ref sa1)] [] 0 (rm20_1_0r hw Z0 ) N0 pd_0 e4 8 (fun T5 _ X5 N5 e5 => ?_)
    refine g_pop C X5 d19_8 9 rfl ?_
    exact g_retV C X5 K d19_9 (by decide) (by decide) e5 ⟨rfl, N5, rfl⟩
theorem ef_18ri (m : MethodId) (a1 : Addr) (a2 : Int32) : entryFrame m #[(.ref a1), (.int a2)] 2 = mkF m 0 #[rv a1, iv a2] [] := by first | (simp [entryFrame, mkF, argsToLocals, Value.category, iv, rv, jv, nv, uu, sd]; done) | rfl
theorem d18_0 : decode jdk_43_method_2_code 0 = .ok (.iload_n 1, 1) := by decide +kernel
theorem d18_1 : decode jdk_43_method_2_code 1 = .ok (.aload_n 0, 1) := by decide +kernel
theorem d18_2 : decode jdk_43_method_2_code 2 = .ok (.arraylength, 1) := by decide +kernel
theorem d18_3 : decode jdk_43_method_2_code 3 = .ok (.invokestatic 9, 3) := by decide +kernel
theorem w_90 {Z : State} {a0 : Array Value} (hw : ∀ d ∈ tables_1, d.before a0 Z = true) : Jvm.Cond.before (Jvm.Cond.code ({ cls := "java/lang/String", name := "checkIndex", desc := "(II)V" } : Jvm.MethodName) jdk_42_method_155_code (2 : Nat) (Option.none : Option Jvm.ClassFile.FieldType)) a0 Z = true := hw _ (List.mem_of_getElem? (i := 90) rfl)
theorem w_8 {Z : State} {a0 : Array Value} (hw : ∀ d ∈ tables_1, d.before a0 Z = true) : Jvm.Cond.before (Jvm.Cond.initialized "java/lang/String") a0 Z = true := hw _ (List.mem_of_getElem? (i := 8) rfl)
theorem w_88 {Z : State} {a0 : Array Value} (hw : ∀ d ∈ tables_1, d.before a0 Z = true) : Jvm.Cond.before (Jvm.Cond.methodLink "java/lang/StringLatin1" (9 : Nat) ({ cls := "java/lang/String", name := "checkIndex", desc := "(II)V" } : Jvm.MethodName)) a0 Z = true := hw _ (List.mem_of_getElem? (i := 88) rfl)
theorem pd_1 : parseMethodDescriptor "(II)V" = some ⟨[.int, .int], none⟩ := by decide +kernel
theorem w_89 {Z : State} {a0 : Array Value} (hw : ∀ d ∈ tables_1, d.before a0 Z = true) : Jvm.Cond.before (Jvm.Cond.static ({ cls := "java/lang/String", name := "checkIndex", desc := "(II)V" } : Jvm.MethodName)) a0 Z = true := hw _ (List.mem_of_getElem? (i := 89) rfl)
theorem b_1 (hw : OwnW a0 Z) : CallS "java/lang/StringLatin1" 9 (⟨"java/lang/String", "checkIndex", "(II)V"⟩ : MethodName) jdk_42_method_155_code (2 : Nat) (Option.none : Option Jvm.ClassFile.FieldType) a0 Z := ⟨(w_88 hw), (w_89 hw), (w_8 hw), (w_90 hw)⟩
theorem d18_6 : decode jdk_43_method_2_code 6 = .ok (.aload_n 0, 1) := by decide +kernel
theorem d18_7 : decode jdk_43_method_2_code 7 = .ok (.iload_n 1, 1) := by decide +kernel
theorem d18_8 : decode jdk_43_method_2_code 8 = .ok (.baload, 1) := by decide +kernel
theorem d18_9 : decode jdk_43_method_2_code 9 = .ok (.sipush 255, 3) := by decide +kernel
theorem d18_12 : decode jdk_43_method_2_code 12 = .ok (.iand, 1) := by decide +kernel
theorem d18_13 : decode jdk_43_method_2_code 13 = .ok (.i2c, 1) := by decide +kernel
theorem d18_14 : decode jdk_43_method_2_code 14 = .ok (.ireturn, 1) := by decide +kernel
abbrev y18 : MethodName := (⟨"java/lang/StringLatin1", "charAt", "([BI)C"⟩ : MethodName)
theorem pn_18 : plainName "java/lang/StringLatin1" = true := by first | (simp [plainName, overriddenIn]; done) | decide +kernel
theorem rm18_1_0 {o1 : Addr} {kd1 : ClassId} {c1 : Int32} {wf1 : Value} (hw : OwnW a0 Z) (Z0 : n0 ≤ h0.size) (F0 : Arv Z h0 o1 kd1 .byte 1 [(.int c1)] (.int 0)) (F1 : OSf Z h0 wf1) (hwf : wf1.isRef = true) : OwnMF l Z y18 jdk_43_method_2_code 2 (some .char) ws ⟨2, 0, 0, 27⟩ #[(.ref o1), (.int 0)] h0 (OwnQ (some (.int (own_ch c1))) h0 n0) := by
  refine bo (plainFor_of_name pn_18) ?_
  intro p e s m below meth c T0 G C hnm hnamed X0 e0 K
  have N0 := Fr.nil n0
  refine Goes.to (congrArg T0.setTop (ef_18ri m o1 (0 : Int32))) ?_
  refine g_iloadN C X0 d18_0 1 rfl ?_
  refine g_aloadN C X0 d18_1 2 rfl rfl ?_
  refine g_arraylength C X0 e0 F0 d18_2 3 ?_
  refine g_callSn C X0 (b_1 hw) d18_3 [(.int 0), (.int 1)] [] 0 (rm19_1_0 hw Z0 F1 hwf) N0 pd_1 e0 6 (fun T1 _ X1 N1 e1 => ?_)
  refine g_aloadN C X1 d18_6 7 rfl rfl ?_
  refine g_iloadN C X1 d18_7 8 rfl ?_
  refine g_baload C X1 e1 F0 (by decide) (v := (.int c1)) rfl d18_8 9 ?_
  refine g_sipush C X1 d18_9 12 (v := 255) rfl ?_
  refine g_iand C X1 d18_12 13 ?_
  refine g_i2c C X1 d18_13 14 ?_
  exact g_retN C X1 K (by simp) d18_14 (by decide) (by decide) e1 ⟨rfl, N1, rfl⟩
theorem ef_16ri (m : MethodId) (a1 : Addr) (a2 : Int32) : entryFrame m #[(.ref a1), (.int a2)] 2 = mkF m 0 #[rv a1, iv a2] [] := by first | (simp [entryFrame, mkF, argsToLocals, Value.category, iv, rv, jv, nv, uu, sd]; done) | rfl
theorem d16_0 : decode jdk_42_method_56_code 0 = .ok (.aload_n 0, 1) := by decide +kernel
theorem d16_1 : decode jdk_42_method_56_code 1 = .ok (.invokevirtual 492, 3) := by decide +kernel
theorem w_83 {Z : State} {a0 : Array Value} (hw : ∀ d ∈ tables_1, d.before a0 Z = true) : Jvm.Cond.before (Jvm.Cond.code ({ cls := "java/lang/String", name := "isLatin1", desc := "()Z" } : Jvm.MethodName) jdk_42_method_154_code (1 : Nat) (Option.some Jvm.ClassFile.FieldType.boolean)) a0 Z = true := hw _ (List.mem_of_getElem? (i := 83) rfl)
theorem w_79 {Z : State} {a0 : Array Value} (hw : ∀ d ∈ tables_1, d.before a0 Z = true) : Jvm.Cond.before (Jvm.Cond.methodLink "java/lang/String" (492 : Nat) ({ cls := "java/lang/String", name := "isLatin1", desc := "()Z" } : Jvm.MethodName)) a0 Z = true := hw _ (List.mem_of_getElem? (i := 79) rfl)
theorem pd_2 : parseMethodDescriptor "()Z" = some ⟨[], some .boolean⟩ := by decide +kernel
theorem w_80 {Z : State} {a0 : Array Value} (hw : ∀ d ∈ tables_1, d.before a0 Z = true) : Jvm.Cond.before (Jvm.Cond.declares ({ cls := "java/lang/String", name := "isLatin1", desc := "()Z" } : Jvm.MethodName)) a0 Z = true := hw _ (List.mem_of_getElem? (i := 80) rfl)
theorem w_82 {Z : State} {a0 : Array Value} (hw : ∀ d ∈ tables_1, d.before a0 Z = true) : Jvm.Cond.before (Jvm.Cond.selects "java/lang/String" ({ cls := "java/lang/String", name := "isLatin1", desc := "()Z" } : Jvm.MethodName) ({ cls := "java/lang/String", name := "isLatin1", desc := "()Z" } : Jvm.MethodName)) a0 Z = true := hw _ (List.mem_of_getElem? (i := 82) rfl)
theorem w_81 {Z : State} {a0 : Array Value} (hw : ∀ d ∈ tables_1, d.before a0 Z = true) : Jvm.Cond.before (Jvm.Cond.instanceMethod ({ cls := "java/lang/String", name := "isLatin1", desc := "()Z" } : Jvm.MethodName)) a0 Z = true := hw _ (List.mem_of_getElem? (i := 81) rfl)
theorem b_2 (hw : OwnW a0 Z) : CallV "java/lang/String" 492 (⟨"java/lang/String", "isLatin1", "()Z"⟩ : MethodName) "java/lang/String" jdk_42_method_154_code (1 : Nat) (Option.some Jvm.ClassFile.FieldType.boolean) a0 Z := ⟨(w_79 hw), (w_80 hw), (w_82 hw), (w_81 hw), (w_83 hw), (w_8 hw)⟩
theorem d16_4 : decode jdk_42_method_56_code 4 = .ok (.ifCond .eq 12, 3) := by decide +kernel
theorem d16_7 : decode jdk_42_method_56_code 7 = .ok (.aload_n 0, 1) := by decide +kernel
theorem d16_8 : decode jdk_42_method_56_code 8 = .ok (.getfield 9, 3) := by decide +kernel
theorem d16_11 : decode jdk_42_method_56_code 11 = .ok (.iload_n 1, 1) := by decide +kernel
theorem d16_12 : decode jdk_42_method_56_code 12 = .ok (.invokestatic 495, 3) := by decide +kernel
theorem w_87 {Z : State} {a0 : Array Value} (hw : ∀ d ∈ tables_1, d.before a0 Z = true) : Jvm.Cond.before (Jvm.Cond.code ({ cls := "java/lang/StringLatin1", name := "charAt", desc := "([BI)C" } : Jvm.MethodName) jdk_43_method_2_code (2 : Nat) (Option.some Jvm.ClassFile.FieldType.char)) a0 Z = true := hw _ (List.mem_of_getElem? (i := 87) rfl)
theorem w_86 {Z : State} {a0 : Array Value} (hw : ∀ d ∈ tables_1, d.before a0 Z = true) : Jvm.Cond.before (Jvm.Cond.initialized "java/lang/StringLatin1") a0 Z = true := hw _ (List.mem_of_getElem? (i := 86) rfl)
theorem w_84 {Z : State} {a0 : Array Value} (hw : ∀ d ∈ tables_1, d.before a0 Z = true) : Jvm.Cond.before (Jvm.Cond.methodLink "java/lang/String" (495 : Nat) ({ cls := "java/lang/StringLatin1", name := "charAt", desc := "([BI)C" } : Jvm.MethodName)) a0 Z = true := hw _ (List.mem_of_getElem? (i := 84) rfl)
theorem pd_3 : parseMethodDescriptor "([BI)C" = some ⟨[(.array .byte), .int], some .char⟩ := by decide +kernel
theorem w_85 {Z : State} {a0 : Array Value} (hw : ∀ d ∈ tables_1, d.before a0 Z = true) : Jvm.Cond.before (Jvm.Cond.static ({ cls := "java/lang/StringLatin1", name := "charAt", desc := "([BI)C" } : Jvm.MethodName)) a0 Z = true := hw _ (List.mem_of_getElem? (i := 85) rfl)
theorem b_3 (hw : OwnW a0 Z) : CallS "java/lang/String" 495 (⟨"java/lang/StringLatin1", "charAt", "([BI)C"⟩ : MethodName) jdk_43_method_2_code (2 : Nat) (Option.some Jvm.ClassFile.FieldType.char) a0 Z := ⟨(w_84 hw), (w_85 hw), (w_86 hw), (w_87 hw)⟩
theorem d16_15 : decode jdk_42_method_56_code 15 = .ok (.ireturn, 1) := by decide +kernel
abbrev y16 : MethodName := (⟨"java/lang/String", "charAt", "(I)C"⟩ : MethodName)
theorem rm16_1_0 {o1 o2 : Addr} {kd1 : ClassId} {c1 cs1 : Int32} {wf1 : Value} (hw : OwnW a0 Z) (Z0 : n0 ≤ h0.size) (F0 : OEs Z h0 o1) (F1 : OFv Z h0 o1 (.ref o2)) (F2 : OFc Z h0 o1) (F3 : Arv Z h0 o2 kd1 .byte 1 [(.int c1)] (.int 0)) (F4 : OSc Z h0 cs1) (F5 : OSf Z h0 wf1) (hcs : ¬ cs1 = (0 : Int32)) (hwf : wf1.isRef = true) : OwnMF l Z y16 jdk_42_method_56_code 2 (some .char) ws ⟨3, 0, 0, 40⟩ #[(.ref o1), (.int 0)] h0 (OwnQ (some (.int (own_ch c1))) h0 n0) := by
  refine bo (plainFor_of_name pn_2) ?_
  intro p e s m below meth c T0 G C hnm hnamed X0 e0 K
  have N0 := Fr.nil n0
  refine Goes.to (congrArg T0.setTop (ef_16ri m o1 (0 : Int32))) ?_
  refine g_aloadN C X0 d16_0 1 rfl rfl ?_
  refine g_callV0 C X0 (b_2 hw) F0 d16_1 [] [] 0 (rm17 hw Z0 F2 F4 hcs) N0 pd_2 e0 4 (fun T1 _ X1 N1 e1 => ?_)
  refine g_if_eq C X1 d16_4 16 7 (fun hc4 => absurd hc4 (by decide)) (fun hc4 => ?_)
  refine g_aloadN C X1 d16_7 8 rfl rfl ?_
  refine g_getF C X1 (w_25 hw) Via.refl e1 F1 d16_8 11 (fun T2 X2 e2 => ?_)
  refine g_iloadN C X2 d16_11 12 rfl ?_
  refine g_callS0 C X2 (b_3 hw) d16_12 [(.ref o2), (.int 0)] [] 0 (rm18_1_0 hw Z0 F3 F5 hwf) N1 pd_3 e2 15 (fun T3 _ X3 N3 e3 => ?_)
  exact g_retN C X3 K (by simp) d16_15 (by decide) (by decide) e3 ⟨(by rw [own_narr]), N3, rfl⟩
theorem ef_11iiin (m : MethodId) (a1 : Int32) (a2 : Int32) (a3 : Int32) : entryFrame m #[(.int a1), (.int a2), (.int a3), .null] 4 = mkF m 0 #[iv a1, iv a2, iv a3, nv] [] := by first | (simp [entryFrame, mkF, argsToLocals, Value.category, iv, rv, jv, nv, uu, sd]; done) | rfl
theorem d11_0 : decode jdk_41_method_12_code 0 = .ok (.iload_n 0, 1) := by decide +kernel
theorem d11_1 : decode jdk_41_method_12_code 1 = .ok (.ifCond .lt 13, 3) := by decide +kernel
theorem d11_4 : decode jdk_41_method_12_code 4 = .ok (.iload_n 0, 1) := by decide +kernel
theorem d11_5 : decode jdk_41_method_12_code 5 = .ok (.iload_n 1, 1) := by decide +kernel
theorem d11_6 : decode jdk_41_method_12_code 6 = .ok (.if_icmp .gt 8, 3) := by decide +kernel
theorem d11_9 : decode jdk_41_method_12_code 9 = .ok (.iload_n 1, 1) := by decide +kernel
theorem d11_10 : decode jdk_41_method_12_code 10 = .ok (.iload_n 2, 1) := by decide +kernel
theorem d11_11 : decode jdk_41_method_12_code 11 = .ok (.if_icmp .le 11, 3) := by decide +kernel
theorem d11_22 : decode jdk_41_method_12_code 22 = .ok (.iload_n 0, 1) := by decide +kernel
theorem d11_23 : decode jdk_41_method_12_code 23 = .ok (.ireturn, 1) := by decide +kernel
abbrev y11 : MethodName := (⟨"jdk/internal/util/Preconditions", "checkFromToIndex", "(IIILjava/util/function/BiFunction;)I"⟩ : MethodName)
theorem rm11n {bs1 be1 bn1 : Int32} (hw : OwnW a0 Z) (Z0 : n0 ≤ h0.size) (hb1 : ¬ bs1 < (0 : Int32)) (hb2 : ¬ be1 < bs1) (hb3 : ¬ bn1 < be1) : OwnMF l Z y11 jdk_41_method_12_code 4 (some .int) ws ⟨0, 0, 0, 0⟩ #[(.int bs1), (.int be1), (.int bn1), .null] h0 (OwnQ (some (.int bs1)) h0 n0) := by
  refine bo (plainFor_of_name pn_11) ?_
  intro p e s m below meth c T0 G C hnm hnamed X0 e0 K
  have N0 := Fr.nil n0
  refine Goes.to (congrArg T0.setTop (ef_11iiin m bs1 be1 bn1)) ?_
  refine g_iloadN C X0 d11_0 1 rfl ?_
  refine g_if_lt C X0 d11_1 14 4 (fun hc1 => absurd hc1 hb1) (fun hc1 => ?_)
  refine g_iloadN C X0 d11_4 5 rfl ?_
  refine g_iloadN C X0 d11_5 6 rfl ?_
  refine g_icmp_gt C X0 d11_6 14 9 (fun hc6 => absurd hc6 hb2) (fun hc6 => ?_)
  refine g_iloadN C X0 d11_9 10 rfl ?_
  refine g_iloadN C X0 d11_10 11 rfl ?_
  refine g_icmp_le C X0 d11_11 22 14 (fun hc11 => ?_) (fun hc11 => absurd hc11 hb3)
  refine g_iloadN C X0 d11_22 23 rfl ?_
  exact g_retI C X0 K d11_23 (by decide) (by decide) e0 ⟨rfl, N0, rfl⟩
theorem ef_11iiir (m : MethodId) (a1 : Int32) (a2 : Int32) (a3 : Int32) (a4 : Addr) : entryFrame m #[(.int a1), (.int a2), (.int a3), (.ref a4)] 4 = mkF m 0 #[iv a1, iv a2, iv a3, rv a4] [] := by first | (simp [entryFrame, mkF, argsToLocals, Value.category, iv, rv, jv, nv, uu, sd]; done) | rfl
theorem rm11r {bs1 be1 bn1 : Int32} {o1 : Addr} (hw : OwnW a0 Z) (Z0 : n0 ≤ h0.size) (hb1 : ¬ bs1 < (0 : Int32)) (hb2 : ¬ be1 < bs1) (hb3 : ¬ bn1 < be1) : OwnMF l Z y11 jdk_41_method_12_code 4 (some .int) ws ⟨0, 0, 0, 0⟩ #[(.int bs1), (.int be1), (.int bn1), (.ref o1)] h0 (OwnQ (some (.int bs1)) h0 n0) := by
  refine bo (plainFor_of_name pn_11) ?_
  intro p e s m below meth c T0 G C hnm hnamed X0 e0 K
  have N0 := Fr.nil n0
  refine Goes.to (congrArg T0.setTop (ef_11iiir m bs1 be1 bn1 o1)) ?_
  refine g_iloadN C X0 d11_0 1 rfl ?_
  refine g_if_lt C X0 d11_1 14 4 (fun hc1 => absurd hc1 hb1) (fun hc1 => ?_)
  refine g_iloadN C X0 d11_4 5 rfl ?_
  refine g_iloadN C X0 d11_5 6 rfl ?_
  refine g_icmp_gt C X0 d11_6 14 9 (fun hc6 => absurd hc6 hb2) (fun hc6 => ?_)
  refine g_iloadN C X0 d11_9 10 rfl ?_
  refine g_iloadN C X0 d11_10 11 rfl ?_
  refine g_icmp_le C X0 d11_11 22 14 (fun hc11 => ?_) (fun hc11 => absurd hc11 hb3)
  refine g_iloadN C X0 d11_22 23 rfl ?_
  exact g_retI C X0 K d11_23 (by decide) (by decide) e0 ⟨rfl, N0, rfl⟩
theorem ef_10iii (m : MethodId) (a1 : Int32) (a2 : Int32) (a3 : Int32) : entryFrame m #[(.int a1), (.int a2), (.int a3)] 3 = mkF m 0 #[iv a1, iv a2, iv a3] [] := by first | (simp [entryFrame, mkF, argsToLocals, Value.category, iv, rv, jv, nv, uu, sd]; done) | rfl
theorem d10_0 : decode jdk_42_method_158_code 0 = .ok (.iload_n 0, 1) := by decide +kernel
theorem d10_1 : decode jdk_42_method_158_code 1 = .ok (.iload_n 1, 1) := by decide +kernel
theorem d10_2 : decode jdk_42_method_158_code 2 = .ok (.iload_n 2, 1) := by decide +kernel
theorem d10_3 : decode jdk_42_method_158_code 3 = .ok (.getstatic 1053, 3) := by decide +kernel
theorem d10_6 : decode jdk_42_method_158_code 6 = .ok (.invokestatic 1062, 3) := by decide +kernel
theorem w_59 {Z : State} {a0 : Array Value} (hw : ∀ d ∈ tables_1, d.before a0 Z = true) : Jvm.Cond.before (Jvm.Cond.code ({ cls := "jdk/internal/util/Preconditions", name := "checkFromToIndex", desc := "(IIILjava/util/function/BiFunction;)I" } : Jvm.MethodName) jdk_41_method_12_code (4 : Nat) (Option.some Jvm.ClassFile.FieldType.int)) a0 Z = true := hw _ (List.mem_of_getElem? (i := 59) rfl)
theorem w_57 {Z : State} {a0 : Array Value} (hw : ∀ d ∈ tables_1, d.before a0 Z = true) : Jvm.Cond.before (Jvm.Cond.methodLink "java/lang/String" (1062 : Nat) ({ cls := "jdk/internal/util/Preconditions", name := "checkFromToIndex", desc := "(IIILjava/util/function/BiFunction;)I" } : Jvm.MethodName)) a0 Z = true := hw _ (List.mem_of_getElem? (i := 57) rfl)
theorem pd_4 : parseMethodDescriptor "(IIILjava/util/function/BiFunction;)I" = some ⟨[.int, .int, .int, (.object "java/util/function/BiFunction")], some .int⟩ := by decide +kernel
theorem w_58 {Z : State} {a0 : Array Value} (hw : ∀ d ∈ tables_1, d.before a0 Z = true) : Jvm.Cond.before (Jvm.Cond.static ({ cls := "jdk/internal/util/Preconditions", name := "checkFromToIndex", desc := "(IIILjava/util/function/BiFunction;)I" } : Jvm.MethodName)) a0 Z = true := hw _ (List.mem_of_getElem? (i := 58) rfl)
theorem b_4 (hw : OwnW a0 Z) : CallS "java/lang/String" 1062 (⟨"jdk/internal/util/Preconditions", "checkFromToIndex", "(IIILjava/util/function/BiFunction;)I"⟩ : MethodName) jdk_41_method_12_code (4 : Nat) (Option.some Jvm.ClassFile.FieldType.int) a0 Z := ⟨(w_57 hw), (w_58 hw), (w_56 hw), (w_59 hw)⟩
theorem d10_9 : decode jdk_42_method_158_code 9 = .ok (.pop, 1) := by decide +kernel
theorem d10_10 : decode jdk_42_method_158_code 10 = .ok (.return_, 1) := by decide +kernel
abbrev y10 : MethodName := (⟨"java/lang/String", "checkBoundsBeginEnd", "(III)V"⟩ : MethodName)
theorem rm10 {bs1 be1 bn1 : Int32} {wf1 : Value} (hw : OwnW a0 Z) (Z0 : n0 ≤ h0.size) (F0 : OSf Z h0 wf1) (hwf : wf1.isRef = true) (hb1 : ¬ bs1 < (0 : Int32)) (hb2 : ¬ be1 < bs1) (hb3 : ¬ bn1 < be1) : OwnMF l Z y10 jdk_42_method_158_code 3 none ws ⟨1, 0, 0, 15⟩ #[(.int bs1), (.int be1), (.int bn1)] h0 (OwnQ none h0 n0) := by
  refine bo (plainFor_of_name pn_2) ?_
  intro p e s m below meth c T0 G C hnm hnamed X0 e0 K
  have N0 := Fr.nil n0
  refine Goes.to (congrArg T0.setTop (ef_10iii m bs1 be1 bn1)) ?_
  rcases ref_cases hwf with rfl | ⟨sa1, rfl⟩
  · refine g_iloadN C X0 d10_0 1 rfl ?_
    refine g_iloadN C X0 d10_1 2 rfl ?_
    refine g_iloadN C X0 d10_2 3 rfl ?_
    refine g_getS C X0 (w_55 hw) Via.refl e0 F0 d10_3 6 (fun T2 X2 e2 => ?_)
    refine g_callS0 C X2 (b_4 hw) d10_6 [(.int bs1), (.int be1), (.int bn1), .null] [] 0 (rm11n hw Z0 hb1 hb2 hb3) N0 pd_4 e2 9 (fun T3 _ X3 N3 e3 => ?_)
    refine g_pop C X3 d10_9 10 rfl ?_
    exact g_retV C X3 K d10_10 (by decide) (by decide) e3 ⟨rfl, N3, rfl⟩
  · refine g_iloadN C X0 d10_0 1 rfl ?_
    refine g_iloadN C X0 d10_1 2 rfl ?_
    refine g_iloadN C X0 d10_2 3 rfl ?_
    refine g_getS C X0 (w_55 hw) Via.refl e0 F0 d10_3 6 (fun T4 X4 e4 => ?_)
    refine g_callS0 C X4 (b_4 hw) d10_6 [(.int bs1), (.int be1), (.int bn1), (.ref sa1)] [] 0 (rm11r hw Z0 hb1 hb2 hb3) N0 pd_4 e4 9 (fun T5 _ X5 N5 e5 => ?_)
    refine g_pop C X5 d10_9 10 rfl ?_
    exact g_retV C X5 K d10_10 (by decide) (by decide) e5 ⟨rfl, N5, rfl⟩
theorem ef_8r (m : MethodId) (a1 : Addr) : entryFrame m #[(.ref a1)] 1 = mkF m 0 #[rv a1] [] := by first | (simp [entryFrame, mkF, argsToLocals, Value.category, iv, rv, jv, nv, uu, sd]; done) | rfl
theorem d8_0 : decode jdk_42_method_152_code 0 = .ok (.getstatic 38, 3) := by decide +kernel
theorem d8_3 : decode jdk_42_method_152_code 3 = .ok (.ifCond .eq 10, 3) := by decide +kernel
theorem d8_6 : decode jdk_42_method_152_code 6 = .ok (.aload_n 0, 1) := by decide +kernel
theorem d8_7 : decode jdk_42_method_152_code 7 = .ok (.getfield 15, 3) := by decide +kernel
theorem d8_10 : decode jdk_42_method_152_code 10 = .ok (.goto 4, 3) := by decide +kernel
theorem d8_14 : decode jdk_42_method_152_code 14 = .ok (.ireturn, 1) := by decide +kernel
abbrev y8 : MethodName := (⟨"java/lang/String", "coder", "()B"⟩ : MethodName)
theorem rm8 {o1 : Addr} {cs1 : Int32} (hw : OwnW a0 Z) (Z0 : n0 ≤ h0.size) (F0 : OFc Z h0 o1) (F1 : OSc Z h0 cs1) (hcs : ¬ cs1 = (0 : Int32)) : OwnMF l Z y8 jdk_42_method_152_code 1 (some .byte) ws ⟨0, 0, 0, 0⟩ #[(.ref o1)] h0 (OwnQ (some (.int 0)) h0 n0) := by
  refine bo (plainFor_of_name pn_2) ?_
  intro p e s m below meth c T0 G C hnm hnamed X0 e0 K
  have N0 := Fr.nil n0
  refine Goes.to (congrArg T0.setTop (ef_8r m o1)) ?_
  refine g_getS C X0 (w_45 hw) Via.refl e0 F1 d8_0 3 (fun T1 X1 e1 => ?_)
  refine g_if_eq C X1 d8_3 13 6 (fun hc3 => absurd hc3 hcs) (fun hc3 => ?_)
  refine g_aloadN C X1 d8_6 7 rfl rfl ?_
  refine g_getF C X1 (w_26 hw) Via.refl e1 F0 d8_7 10 (fun T2 X2 e2 => ?_)
  refine g_goto C X2 d8_10 14 ?_
  exact g_retN C X2 K (by simp) d8_14 (by decide) (by decide) e2 ⟨(by decide), N0, rfl⟩
theorem ef_7r (m : MethodId) (a1 : Addr) : entryFrame m #[(.ref a1)] 1 = mkF m 0 #[rv a1] [] := by first | (simp [entryFrame, mkF, argsToLocals, Value.category, iv, rv, jv, nv, uu, sd]; done) | rfl
theorem d7_0 : decode jdk_42_method_54_code 0 = .ok (.aload_n 0, 1) := by decide +kernel
theorem d7_1 : decode jdk_42_method_54_code 1 = .ok (.getfield 9, 3) := by decide +kernel
theorem d7_4 : decode jdk_42_method_54_code 4 = .ok (.arraylength, 1) := by decide +kernel
theorem d7_5 : decode jdk_42_method_54_code 5 = .ok (.aload_n 0, 1) := by decide +kernel
theorem d7_6 : decode jdk_42_method_54_code 6 = .ok (.invokevirtual 335, 3) := by decide +kernel
theorem w_44 {Z : State} {a0 : Array Value} (hw : ∀ d ∈ tables_1, d.before a0 Z = true) : Jvm.Cond.before (Jvm.Cond.code ({ cls := "java/lang/String", name := "coder", desc := "()B" } : Jvm.MethodName) jdk_42_method_152_code (1 : Nat) (Option.some Jvm.ClassFile.FieldType.byte)) a0 Z = true := hw _ (List.mem_of_getElem? (i := 44) rfl)
theorem w_40 {Z : State} {a0 : Array Value} (hw : ∀ d ∈ tables_1, d.before a0 Z = true) : Jvm.Cond.before (Jvm.Cond.methodLink "java/lang/String" (335 : Nat) ({ cls := "java/lang/String", name := "coder", desc := "()B" } : Jvm.MethodName)) a0 Z = true := hw _ (List.mem_of_getElem? (i := 40) rfl)
theorem pd_5 : parseMethodDescriptor "()B" = some ⟨[], some .byte⟩ := by decide +kernel
theorem w_41 {Z : State} {a0 : Array Value} (hw : ∀ d ∈ tables_1, d.before a0 Z = true) : Jvm.Cond.before (Jvm.Cond.declares ({ cls := "java/lang/String", name := "coder", desc := "()B" } : Jvm.MethodName)) a0 Z = true := hw _ (List.mem_of_getElem? (i := 41) rfl)
theorem w_43 {Z : State} {a0 : Array Value} (hw : ∀ d ∈ tables_1, d.before a0 Z = true) : Jvm.Cond.before (Jvm.Cond.selects "java/lang/String" ({ cls := "java/lang/String", name := "coder", desc := "()B" } : Jvm.MethodName) ({ cls := "java/lang/String", name := "coder", desc := "()B" } : Jvm.MethodName)) a0 Z = true := hw _ (List.mem_of_getElem? (i := 43) rfl)
theorem w_42 {Z : State} {a0 : Array Value} (hw : ∀ d ∈ tables_1, d.before a0 Z = true) : Jvm.Cond.before (Jvm.Cond.instanceMethod ({ cls := "java/lang/String", name := "coder", desc := "()B" } : Jvm.MethodName)) a0 Z = true := hw _ (List.mem_of_getElem? (i := 42) rfl)
theorem b_5 (hw : OwnW a0 Z) : CallV "java/lang/String" 335 (⟨"java/lang/String", "coder", "()B"⟩ : MethodName) "java/lang/String" jdk_42_method_152_code (1 : Nat) (Option.some Jvm.ClassFile.FieldType.byte) a0 Z := ⟨(w_40 hw), (w_41 hw), (w_43 hw), (w_42 hw), (w_44 hw), (w_8 hw)⟩
theorem d7_9 : decode jdk_42_method_54_code 9 = .ok (.ishr, 1) := by decide +kernel
theorem d7_10 : decode jdk_42_method_54_code 10 = .ok (.ireturn, 1) := by decide +kernel
abbrev y7 : MethodName := (⟨"java/lang/String", "length", "()I"⟩ : MethodName)
theorem rm7_0 {o1 o2 : Addr} {kd1 : ClassId} {cs1 : Int32} (hw : OwnW a0 Z) (Z0 : n0 ≤ h0.size) (F0 : OEs Z h0 o1) (F1 : OFv Z h0 o1 (.ref o2)) (F2 : OFc Z h0 o1) (F3 : Arv Z h0 o2 kd1 .byte 0 [] (.int 0)) (F4 : OSc Z h0 cs1) (hcs : ¬ cs1 = (0 : Int32)) : OwnMF l Z y7 jdk_42_method_54_code 1 (some .int) ws ⟨1, 0, 0, 13⟩ #[(.ref o1)] h0 (OwnQ (some (.int 0)) h0 n0) := by
  refine bo (plainFor_of_name pn_2) ?_
  intro p e s m below meth c T0 G C hnm hnamed X0 e0 K
  have N0 := Fr.nil n0
  refine Goes.to (congrArg T0.setTop (ef_7r m o1)) ?_
  refine g_aloadN C X0 d7_0 1 rfl rfl ?_
  refine g_getF C X0 (w_25 hw) Via.refl e0 F1 d7_1 4 (fun T1 X1 e1 => ?_)
  refine g_arraylength C X1 e1 F3 d7_4 5 ?_
  refine g_aloadN C X1 d7_5 6 rfl rfl ?_
  refine g_callV0 C X1 (b_5 hw) F0 d7_6 [] [(.int 0)] 1 (rm8 hw Z0 F2 F4 hcs) N0 pd_5 e1 9 (fun T2 _ X2 N2 e2 => ?_)
  refine g_ishr C X2 d7_9 10 ?_
  exact g_retI C X2 K d7_10 (by decide) (by decide) e2 ⟨(by decide), N2, rfl⟩
theorem ef_9rii (m : MethodId) (a1 : Addr) (a2 : Int32) (a3 : Int32) : entryFrame m #[(.ref a1), (.int a2), (.int a3)] 5 = mkF m 0 #[rv a1, iv a2, iv a3, uu, uu] [] := by first | (simp [entryFrame, mkF, argsToLocals, Value.category, iv, rv, jv, nv, uu, sd]; done) | rfl
theorem d9_0 : decode jdk_42_method_92_code 0 = .ok (.aload_n 0, 1) := by decide +kernel
theorem d9_1 : decode jdk_42_method_92_code 1 = .ok (.invokevirtual 505, 3) := by decide +kernel
theorem w_39 {Z : State} {a0 : Array Value} (hw : ∀ d ∈ tables_1, d.before a0 Z = true) : Jvm.Cond.before (Jvm.Cond.code ({ cls := "java/lang/String", name := "length", desc := "()I" } : Jvm.MethodName) jdk_42_method_54_code (1 : Nat) (Option.some Jvm.ClassFile.FieldType.int)) a0 Z = true := hw _ (List.mem_of_getElem? (i := 39) rfl)
theorem w_51 {Z : State} {a0 : Array Value} (hw : ∀ d ∈ tables_1, d.before a0 Z = true) : Jvm.Cond.before (Jvm.Cond.methodLink "java/lang/String" (505 : Nat) ({ cls := "java/lang/String", name := "length", desc := "()I" } : Jvm.MethodName)) a0 Z = true := hw _ (List.mem_of_getElem? (i := 51) rfl)
theorem pd_6 : parseMethodDescriptor "()I" = some ⟨[], some .int⟩ := by decide +kernel
theorem w_36 {Z : State} {a0 : Array Value} (hw : ∀ d ∈ tables_1, d.before a0 Z = true) : Jvm.Cond.before (Jvm.Cond.declares ({ cls := "java/lang/String", name := "length", desc := "()I" } : Jvm.MethodName)) a0 Z = true := hw _ (List.mem_of_getElem? (i := 36) rfl)
theorem w_38 {Z : State} {a0 : Array Value} (hw : ∀ d ∈ tables_1, d.before a0 Z = true) : Jvm.Cond.before (Jvm.Cond.selects "java/lang/String" ({ cls := "java/lang/String", name := "length", desc := "()I" } : Jvm.MethodName) ({ cls := "java/lang/String", name := "length", desc := "()I" } : Jvm.MethodName)) a0 Z = true := hw _ (List.mem_of_getElem? (i := 38) rfl)
theorem w_37 {Z : State} {a0 : Array Value} (hw : ∀ d ∈ tables_1, d.before a0 Z = true) : Jvm.Cond.before (Jvm.Cond.instanceMethod ({ cls := "java/lang/String", name := "length", desc := "()I" } : Jvm.MethodName)) a0 Z = true := hw _ (List.mem_of_getElem? (i := 37) rfl)
theorem b_6 (hw : OwnW a0 Z) : CallV "java/lang/String" 505 (⟨"java/lang/String", "length", "()I"⟩ : MethodName) "java/lang/String" jdk_42_method_54_code (1 : Nat) (Option.some Jvm.ClassFile.FieldType.int) a0 Z := ⟨(w_51 hw), (w_36 hw), (w_38 hw), (w_37 hw), (w_39 hw), (w_8 hw)⟩
theorem d9_4 : decode jdk_42_method_92_code 4 = .ok (.istore_n 3, 1) := by decide +kernel
theorem d9_5 : decode jdk_42_method_92_code 5 = .ok (.iload_n 1, 1) := by decide +kernel
theorem d9_6 : decode jdk_42_method_92_code 6 = .ok (.iload_n 2, 1) := by decide +kernel
theorem d9_7 : decode jdk_42_method_92_code 7 = .ok (.iload_n 3, 1) := by decide +kernel
theorem d9_8 : decode jdk_42_method_92_code 8 = .ok (.invokestatic 521, 3) := by decide +kernel
theorem w_54 {Z : State} {a0 : Array Value} (hw : ∀ d ∈ tables_1, d.before a0 Z = true) : Jvm.Cond.before (Jvm.Cond.code ({ cls := "java/lang/String", name := "checkBoundsBeginEnd", desc := "(III)V" } : Jvm.MethodName) jdk_42_method_158_code (3 : Nat) (Option.none : Option Jvm.ClassFile.FieldType)) a0 Z = true := hw _ (List.mem_of_getElem? (i := 54) rfl)
theorem w_52 {Z : State} {a0 : Array Value} (hw : ∀ d ∈ tables_1, d.before a0 Z = true) : Jvm.Cond.before (Jvm.Cond.methodLink "java/lang/String" (521 : Nat) ({ cls := "java/lang/String", name := "checkBoundsBeginEnd", desc := "(III)V" } : Jvm.MethodName)) a0 Z = true := hw _ (List.mem_of_getElem? (i := 52) rfl)
theorem pd_7 : parseMethodDescriptor "(III)V" = some ⟨[.int, .int, .int], none⟩ := by decide +kernel
theorem w_53 {Z : State} {a0 : Array Value} (hw : ∀ d ∈ tables_1, d.before a0 Z = true) : Jvm.Cond.before (Jvm.Cond.static ({ cls := "java/lang/String", name := "checkBoundsBeginEnd", desc := "(III)V" } : Jvm.MethodName)) a0 Z = true := hw _ (List.mem_of_getElem? (i := 53) rfl)
theorem b_7 (hw : OwnW a0 Z) : CallS "java/lang/String" 521 (⟨"java/lang/String", "checkBoundsBeginEnd", "(III)V"⟩ : MethodName) jdk_42_method_158_code (3 : Nat) (Option.none : Option Jvm.ClassFile.FieldType) a0 Z := ⟨(w_52 hw), (w_53 hw), (w_8 hw), (w_54 hw)⟩
theorem d9_11 : decode jdk_42_method_92_code 11 = .ok (.iload_n 1, 1) := by decide +kernel
theorem d9_12 : decode jdk_42_method_92_code 12 = .ok (.ifCond .ne 10, 3) := by decide +kernel
theorem d9_15 : decode jdk_42_method_92_code 15 = .ok (.iload_n 2, 1) := by decide +kernel
theorem d9_16 : decode jdk_42_method_92_code 16 = .ok (.iload_n 3, 1) := by decide +kernel
theorem d9_17 : decode jdk_42_method_92_code 17 = .ok (.if_icmp .ne 5, 3) := by decide +kernel
theorem d9_20 : decode jdk_42_method_92_code 20 = .ok (.aload_n 0, 1) := by decide +kernel
theorem d9_21 : decode jdk_42_method_92_code 21 = .ok (.areturn, 1) := by decide +kernel
abbrev y9 : MethodName := (⟨"java/lang/String", "substring", "(II)Ljava/lang/String;"⟩ : MethodName)
theorem rm9_0_0_0 {o1 o2 : Addr} {kd1 : ClassId} {cs1 : Int32} {wf1 : Value} (hw : OwnW a0 Z) (Z0 : n0 ≤ h0.size) (F0 : OEs Z h0 o1) (F1 : OFv Z h0 o1 (.ref o2)) (F2 : OFc Z h0 o1) (F3 : Arv Z h0 o2 kd1 .byte 0 [] (.int 0)) (F4 : OSc Z h0 cs1) (F5 : OSf Z h0 wf1) (hcs : ¬ cs1 = (0 : Int32)) (hwf : wf1.isRef = true) : OwnMF l Z y9 jdk_42_method_92_code 5 (some (.object "java/lang/String")) ws ⟨2, 0, 0, 29⟩ #[(.ref o1), (.int 0), (.int 0)] h0 (OwnQ (some (.ref o1)) h0 n0) := by
  refine bo (plainFor_of_name pn_2) ?_
  intro p e s m below meth c T0 G C hnm hnamed X0 e0 K
  have N0 := Fr.nil n0
  refine Goes.to (congrArg T0.setTop (ef_9rii m o1 (0 : Int32) (0 : Int32))) ?_
  refine g_aloadN C X0 d9_0 1 rfl rfl ?_
  refine g_callV0 C X0 (b_6 hw) F0 d9_1 [] [] 0 (rm7_0 hw Z0 F0 F1 F2 F3 F4 hcs) N0 pd_6 e0 4 (fun T1 _ X1 N1 e1 => ?_)
  refine g_istoreN C X1 d9_4 5 (w := 0) rfl (ls' := #[rv o1, iv 0, iv 0, iv 0, uu]) rfl ?_
  refine g_iloadN C X1 d9_5 6 rfl ?_
  refine g_iloadN C X1 d9_6 7 rfl ?_
  refine g_iloadN C X1 d9_7 8 rfl ?_
  refine g_callSn C X1 (b_7 hw) d9_8 [(.int 0), (.int 0), (.int 0)] [] 0 (rm10 hw Z0 F5 hwf (by decide) (by decide) (by decide)) N1 pd_7 e1 11 (fun T2 _ X2 N2 e2 => ?_)
  refine g_iloadN C X2 d9_11 12 rfl ?_
  refine g_if_ne C X2 d9_12 22 15 (fun hc12 => absurd hc12 (by decide)) (fun hc12 => ?_)
  refine g_iloadN C X2 d9_15 16 rfl ?_
  refine g_iloadN C X2 d9_16 17 rfl ?_
  refine g_icmp_ne C X2 d9_17 22 20 (fun hc17 => absurd hc17 (by decide)) (fun hc17 => ?_)
  refine g_aloadN C X2 d9_20 21 rfl rfl ?_
  exact g_retA C X2 K rfl rfl rfl d9_21 (by decide) (by decide) e2 ⟨rfl, N2, rfl⟩
theorem ef_6r (m : MethodId) (a1 : Addr) : entryFrame m #[(.ref a1)] 3 = mkF m 0 #[rv a1, uu, uu] [] := by first | (simp [entryFrame, mkF, argsToLocals, Value.category, iv, rv, jv, nv, uu, sd]; done) | rfl
theorem d6_0 : decode prog_35_method_2_code 0 = .ok (.iconst 0, 1) := by decide +kernel
theorem d6_1 : decode prog_35_method_2_code 1 = .ok (.istore_n 1, 1) := by decide +kernel
theorem d6_2 : decode prog_35_method_2_code 2 = .ok (.aload_n 0, 1) := by decide +kernel
theorem d6_3 : decode prog_35_method_2_code 3 = .ok (.invokevirtual 7, 3) := by decide +kernel
theorem w_35 {Z : State} {a0 : Array Value} (hw : ∀ d ∈ tables_1, d.before a0 Z = true) : Jvm.Cond.before (Jvm.Cond.methodLink "com/example/firer/firer/formats/XmlSpace" (7 : Nat) ({ cls := "java/lang/String", name := "length", desc := "()I" } : Jvm.MethodName)) a0 Z = true := hw _ (List.mem_of_getElem? (i := 35) rfl)
theorem b_8 (hw : OwnW a0 Z) : CallV "com/example/firer/firer/formats/XmlSpace" 7 (⟨"java/lang/String", "length", "()I"⟩ : MethodName) "java/lang/String" jdk_42_method_54_code (1 : Nat) (Option.some Jvm.ClassFile.FieldType.int) a0 Z := ⟨(w_35 hw), (w_36 hw), (w_38 hw), (w_37 hw), (w_39 hw), (w_8 hw)⟩
theorem d6_6 : decode prog_35_method_2_code 6 = .ok (.istore_n 2, 1) := by decide +kernel
theorem d6_7 : decode prog_35_method_2_code 7 = .ok (.iload_n 1, 1) := by decide +kernel
theorem d6_8 : decode prog_35_method_2_code 8 = .ok (.iload_n 2, 1) := by decide +kernel
theorem d6_9 : decode prog_35_method_2_code 9 = .ok (.if_icmp .ge 20, 3) := by decide +kernel
theorem d6_29 : decode prog_35_method_2_code 29 = .ok (.iload_n 2, 1) := by decide +kernel
theorem d6_30 : decode prog_35_method_2_code 30 = .ok (.iload_n 1, 1) := by decide +kernel
theorem d6_31 : decode prog_35_method_2_code 31 = .ok (.if_icmp .le 22, 3) := by decide +kernel
theorem d6_53 : decode prog_35_method_2_code 53 = .ok (.aload_n 0, 1) := by decide +kernel
theorem d6_54 : decode prog_35_method_2_code 54 = .ok (.iload_n 1, 1) := by decide +kernel
theorem d6_55 : decode prog_35_method_2_code 55 = .ok (.iload_n 2, 1) := by decide +kernel
theorem d6_56 : decode prog_35_method_2_code 56 = .ok (.invokevirtual 23, 3) := by decide +kernel
theorem w_50 {Z : State} {a0 : Array Value} (hw : ∀ d ∈ tables_1, d.before a0 Z = true) : Jvm.Cond.before (Jvm.Cond.code ({ cls := "java/lang/String", name := "substring", desc := "(II)Ljava/lang/String;" } : Jvm.MethodName) jdk_42_method_92_code (5 : Nat) (Option.some (Jvm.ClassFile.FieldType.object "java/lang/String"))) a0 Z = true := hw _ (List.mem_of_getElem? (i := 50) rfl)
theorem w_46 {Z : State} {a0 : Array Value} (hw : ∀ d ∈ tables_1, d.before a0 Z = true) : Jvm.Cond.before (Jvm.Cond.methodLink "com/example/firer/firer/formats/XmlSpace" (23 : Nat) ({ cls := "java/lang/String", name := "substring", desc := "(II)Ljava/lang/String;" } : Jvm.MethodName)) a0 Z = true := hw _ (List.mem_of_getElem? (i := 46) rfl)
theorem pd_8 : parseMethodDescriptor "(II)Ljava/lang/String;" = some ⟨[.int, .int], some (.object "java/lang/String")⟩ := by decide +kernel
theorem w_47 {Z : State} {a0 : Array Value} (hw : ∀ d ∈ tables_1, d.before a0 Z = true) : Jvm.Cond.before (Jvm.Cond.declares ({ cls := "java/lang/String", name := "substring", desc := "(II)Ljava/lang/String;" } : Jvm.MethodName)) a0 Z = true := hw _ (List.mem_of_getElem? (i := 47) rfl)
theorem w_49 {Z : State} {a0 : Array Value} (hw : ∀ d ∈ tables_1, d.before a0 Z = true) : Jvm.Cond.before (Jvm.Cond.selects "java/lang/String" ({ cls := "java/lang/String", name := "substring", desc := "(II)Ljava/lang/String;" } : Jvm.MethodName) ({ cls := "java/lang/String", name := "substring", desc := "(II)Ljava/lang/String;" } : Jvm.MethodName)) a0 Z = true := hw _ (List.mem_of_getElem? (i := 49) rfl)
theorem w_48 {Z : State} {a0 : Array Value} (hw : ∀ d ∈ tables_1, d.before a0 Z = true) : Jvm.Cond.before (Jvm.Cond.instanceMethod ({ cls := "java/lang/String", name := "substring", desc := "(II)Ljava/lang/String;" } : Jvm.MethodName)) a0 Z = true := hw _ (List.mem_of_getElem? (i := 48) rfl)
theorem b_9 (hw : OwnW a0 Z) : CallV "com/example/firer/firer/formats/XmlSpace" 23 (⟨"java/lang/String", "substring", "(II)Ljava/lang/String;"⟩ : MethodName) "java/lang/String" jdk_42_method_92_code (5 : Nat) (Option.some (Jvm.ClassFile.FieldType.object "java/lang/String")) a0 Z := ⟨(w_46 hw), (w_47 hw), (w_49 hw), (w_48 hw), (w_50 hw), (w_8 hw)⟩
theorem d6_59 : decode prog_35_method_2_code 59 = .ok (.areturn, 1) := by decide +kernel
abbrev y6 : MethodName := (⟨"com/example/firer/firer/formats/XmlSpace", "trim", "(Ljava/lang/String;)Ljava/lang/String;"⟩ : MethodName)
theorem rm6_0_0_0 {o1 o2 : Addr} {kd1 : ClassId} {cs1 : Int32} {wf1 : Value} (hw : OwnW a0 Z) (Z0 : n0 ≤ h0.size) (F0 : OEs Z h0 o1) (F1 : OFv Z h0 o1 (.ref o2)) (F2 : OFc Z h0 o1) (F3 : Arv Z h0 o2 kd1 .byte 0 [] (.int 0)) (F4 : OSc Z h0 cs1) (F5 : OSf Z h0 wf1) (hcs : ¬ cs1 = (0 : Int32)) (hwf : wf1.isRef = true) : OwnMF l Z y6 prog_35_method_2_code 3 (some (.object "java/lang/String")) ws ⟨3, 0, 0, 45⟩ #[(.ref o1)] h0 (OwnQ (some (.ref o1)) h0 n0) := by
  refine bo (plainFor_of_name pn_6) ?_
  intro p e s m below meth c T0 G C hnm hnamed X0 e0 K
  have N0 := Fr.nil n0
  refine Goes.to (congrArg T0.setTop (ef_6r m o1)) ?_
  refine g_iconst C X0 d6_0 1 (v := 0) rfl ?_
  refine g_istoreN C X0 d6_1 2 (w := 0) rfl (ls' := #[rv o1, iv 0, uu]) rfl ?_
  refine g_aloadN C X0 d6_2 3 rfl rfl ?_
  refine g_callV0 C X0 (b_8 hw) F0 d6_3 [] [] 0 (rm7_0 hw Z0 F0 F1 F2 F3 F4 hcs) N0 pd_6 e0 6 (fun T1 _ X1 N1 e1 => ?_)
  refine g_istoreN C X1 d6_6 7 (w := 0) rfl (ls' := #[rv o1, iv 0, iv 0]) rfl ?_
  refine g_iloadN C X1 d6_7 8 rfl ?_
  refine g_iloadN C X1 d6_8 9 rfl ?_
  refine g_icmp_ge C X1 d6_9 29 12 (fun hc9 => ?_) (fun hc9 => absurd hc9 (by decide))
  refine g_iloadN C X1 d6_29 30 rfl ?_
  refine g_iloadN C X1 d6_30 31 rfl ?_
  refine g_icmp_le C X1 d6_31 53 34 (fun hc31 => ?_) (fun hc31 => absurd hc31 (by decide))
  refine g_aloadN C X1 d6_53 54 rfl rfl ?_
  refine g_iloadN C X1 d6_54 55 rfl ?_
  refine g_iloadN C X1 d6_55 56 rfl ?_
  refine g_callV0 C X1 (b_9 hw) F0 d6_56 [(.int 0), (.int 0)] [] 0 (rm9_0_0_0 hw Z0 F0 F1 F2 F3 F4 F5 hcs hwf) N1 pd_8 e1 59 (fun T2 _ X2 N2 e2 => ?_)
  exact g_retA C X2 K rfl rfl rfl d6_59 (by decide) (by decide) e2 ⟨rfl, N2, rfl⟩
theorem rm7_1 {o1 o2 : Addr} {kd1 : ClassId} {c1 cs1 : Int32} (hw : OwnW a0 Z) (Z0 : n0 ≤ h0.size) (F0 : OEs Z h0 o1) (F1 : OFv Z h0 o1 (.ref o2)) (F2 : OFc Z h0 o1) (F3 : Arv Z h0 o2 kd1 .byte 1 [(.int c1)] (.int 0)) (F4 : OSc Z h0 cs1) (hcs : ¬ cs1 = (0 : Int32)) : OwnMF l Z y7 jdk_42_method_54_code 1 (some .int) ws ⟨1, 0, 0, 13⟩ #[(.ref o1)] h0 (OwnQ (some (.int 1)) h0 n0) := by
  refine bo (plainFor_of_name pn_2) ?_
  intro p e s m below meth c T0 G C hnm hnamed X0 e0 K
  have N0 := Fr.nil n0
  refine Goes.to (congrArg T0.setTop (ef_7r m o1)) ?_
  refine g_aloadN C X0 d7_0 1 rfl rfl ?_
  refine g_getF C X0 (w_25 hw) Via.refl e0 F1 d7_1 4 (fun T1 X1 e1 => ?_)
  refine g_arraylength C X1 e1 F3 d7_4 5 ?_
  refine g_aloadN C X1 d7_5 6 rfl rfl ?_
  refine g_callV0 C X1 (b_5 hw) F0 d7_6 [] [(.int 1)] 1 (rm8 hw Z0 F2 F4 hcs) N0 pd_5 e1 9 (fun T2 _ X2 N2 e2 => ?_)
  refine g_ishr C X2 d7_9 10 ?_
  exact g_retI C X2 K d7_10 (by decide) (by decide) e2 ⟨(by decide), N2, rfl⟩
theorem rm9_1_0_1 {o1 o2 : Addr} {kd1 : ClassId} {c1 cs1 : Int32} {wf1 : Value} (hw : OwnW a0 Z) (Z0 : n0 ≤ h0.size) (F0 : OEs Z h0 o1) (F1 : OFv Z h0 o1 (.ref o2)) (F2 : OFc Z h0 o1) (F3 : Arv Z h0 o2 kd1 .byte 1 [(.int c1)] (.int 0)) (F4 : OSc Z h0 cs1) (F5 : OSf Z h0 wf1) (hcs : ¬ cs1 = (0 : Int32)) (hwf : wf1.isRef = true) : OwnMF l Z y9 jdk_42_method_92_code 5 (some (.object "java/lang/String")) ws ⟨2, 0, 0, 29⟩ #[(.ref o1), (.int 0), (.int 1)] h0 (OwnQ (some (.ref o1)) h0 n0) := by
  refine bo (plainFor_of_name pn_2) ?_
  intro p e s m below meth c T0 G C hnm hnamed X0 e0 K
  have N0 := Fr.nil n0
  refine Goes.to (congrArg T0.setTop (ef_9rii m o1 (0 : Int32) (1 : Int32))) ?_
  refine g_aloadN C X0 d9_0 1 rfl rfl ?_
  refine g_callV0 C X0 (b_6 hw) F0 d9_1 [] [] 0 (rm7_1 hw Z0 F0 F1 F2 F3 F4 hcs) N0 pd_6 e0 4 (fun T1 _ X1 N1 e1 => ?_)
  refine g_istoreN C X1 d9_4 5 (w := 1) rfl (ls' := #[rv o1, iv 0, iv 1, iv 1, uu]) rfl ?_
  refine g_iloadN C X1 d9_5 6 rfl ?_
  refine g_iloadN C X1 d9_6 7 rfl ?_
  refine g_iloadN C X1 d9_7 8 rfl ?_
  refine g_callSn C X1 (b_7 hw) d9_8 [(.int 0), (.int 1), (.int 1)] [] 0 (rm10 hw Z0 F5 hwf (by decide) (by decide) (by decide)) N1 pd_7 e1 11 (fun T2 _ X2 N2 e2 => ?_)
  refine g_iloadN C X2 d9_11 12 rfl ?_
  refine g_if_ne C X2 d9_12 22 15 (fun hc12 => absurd hc12 (by decide)) (fun hc12 => ?_)
  refine g_iloadN C X2 d9_15 16 rfl ?_
  refine g_iloadN C X2 d9_16 17 rfl ?_
  refine g_icmp_ne C X2 d9_17 22 20 (fun hc17 => absurd hc17 (by decide)) (fun hc17 => ?_)
  refine g_aloadN C X2 d9_20 21 rfl rfl ?_
  exact g_retA C X2 K rfl rfl rfl d9_21 (by decide) (by decide) e2 ⟨rfl, N2, rfl⟩
theorem d6_12 : decode prog_35_method_2_code 12 = .ok (.aload_n 0, 1) := by decide +kernel
theorem d6_13 : decode prog_35_method_2_code 13 = .ok (.iload_n 1, 1) := by decide +kernel
theorem d6_14 : decode prog_35_method_2_code 14 = .ok (.invokevirtual 13, 3) := by decide +kernel
theorem w_78 {Z : State} {a0 : Array Value} (hw : ∀ d ∈ tables_1, d.before a0 Z = true) : Jvm.Cond.before (Jvm.Cond.code ({ cls := "java/lang/String", name := "charAt", desc := "(I)C" } : Jvm.MethodName) jdk_42_method_56_code (2 : Nat) (Option.some Jvm.ClassFile.FieldType.char)) a0 Z = true := hw _ (List.mem_of_getElem? (i := 78) rfl)
theorem w_74 {Z : State} {a0 : Array Value} (hw : ∀ d ∈ tables_1, d.before a0 Z = true) : Jvm.Cond.before (Jvm.Cond.methodLink "com/example/firer/firer/formats/XmlSpace" (13 : Nat) ({ cls := "java/lang/String", name := "charAt", desc := "(I)C" } : Jvm.MethodName)) a0 Z = true := hw _ (List.mem_of_getElem? (i := 74) rfl)
theorem pd_9 : parseMethodDescriptor "(I)C" = some ⟨[.int], some .char⟩ := by decide +kernel
theorem w_75 {Z : State} {a0 : Array Value} (hw : ∀ d ∈ tables_1, d.before a0 Z = true) : Jvm.Cond.before (Jvm.Cond.declares ({ cls := "java/lang/String", name := "charAt", desc := "(I)C" } : Jvm.MethodName)) a0 Z = true := hw _ (List.mem_of_getElem? (i := 75) rfl)
theorem w_77 {Z : State} {a0 : Array Value} (hw : ∀ d ∈ tables_1, d.before a0 Z = true) : Jvm.Cond.before (Jvm.Cond.selects "java/lang/String" ({ cls := "java/lang/String", name := "charAt", desc := "(I)C" } : Jvm.MethodName) ({ cls := "java/lang/String", name := "charAt", desc := "(I)C" } : Jvm.MethodName)) a0 Z = true := hw _ (List.mem_of_getElem? (i := 77) rfl)
theorem w_76 {Z : State} {a0 : Array Value} (hw : ∀ d ∈ tables_1, d.before a0 Z = true) : Jvm.Cond.before (Jvm.Cond.instanceMethod ({ cls := "java/lang/String", name := "charAt", desc := "(I)C" } : Jvm.MethodName)) a0 Z = true := hw _ (List.mem_of_getElem? (i := 76) rfl)
theorem b_10 (hw : OwnW a0 Z) : CallV "com/example/firer/firer/formats/XmlSpace" 13 (⟨"java/lang/String", "charAt", "(I)C"⟩ : MethodName) "java/lang/String" jdk_42_method_56_code (2 : Nat) (Option.some Jvm.ClassFile.FieldType.char) a0 Z := ⟨(w_74 hw), (w_75 hw), (w_77 hw), (w_76 hw), (w_78 hw), (w_8 hw)⟩
theorem d6_17 : decode prog_35_method_2_code 17 = .ok (.invokestatic 17, 3) := by decide +kernel
theorem w_96 {Z : State} {a0 : Array Value} (hw : ∀ d ∈ tables_1, d.before a0 Z = true) : Jvm.Cond.before (Jvm.Cond.code ({ cls := "com/example/firer/firer/formats/XmlSpace", name := "isSpace", desc := "(C)Z" } : Jvm.MethodName) prog_35_method_3_code (1 : Nat) (Option.some Jvm.ClassFile.FieldType.boolean)) a0 Z = true := hw _ (List.mem_of_getElem? (i := 96) rfl)
theorem w_33 {Z : State} {a0 : Array Value} (hw : ∀ d ∈ tables_1, d.before a0 Z = true) : Jvm.Cond.before (Jvm.Cond.initialized "com/example/firer/firer/formats/XmlSpace") a0 Z = true := hw _ (List.mem_of_getElem? (i := 33) rfl)
theorem w_94 {Z : State} {a0 : Array Value} (hw : ∀ d ∈ tables_1, d.before a0 Z = true) : Jvm.Cond.before (Jvm.Cond.methodLink "com/example/firer/firer/formats/XmlSpace" (17 : Nat) ({ cls := "com/example/firer/firer/formats/XmlSpace", name := "isSpace", desc := "(C)Z" } : Jvm.MethodName)) a0 Z = true := hw _ (List.mem_of_getElem? (i := 94) rfl)
theorem pd_10 : parseMethodDescriptor "(C)Z" = some ⟨[.char], some .boolean⟩ := by decide +kernel
theorem w_95 {Z : State} {a0 : Array Value} (hw : ∀ d ∈ tables_1, d.before a0 Z = true) : Jvm.Cond.before (Jvm.Cond.static ({ cls := "com/example/firer/firer/formats/XmlSpace", name := "isSpace", desc := "(C)Z" } : Jvm.MethodName)) a0 Z = true := hw _ (List.mem_of_getElem? (i := 95) rfl)
theorem b_11 (hw : OwnW a0 Z) : CallS "com/example/firer/firer/formats/XmlSpace" 17 (⟨"com/example/firer/firer/formats/XmlSpace", "isSpace", "(C)Z"⟩ : MethodName) prog_35_method_3_code (1 : Nat) (Option.some Jvm.ClassFile.FieldType.boolean) a0 Z := ⟨(w_94 hw), (w_95 hw), (w_33 hw), (w_96 hw)⟩
theorem d6_20 : decode prog_35_method_2_code 20 = .ok (.ifCond .eq 9, 3) := by decide +kernel
theorem d6_34 : decode prog_35_method_2_code 34 = .ok (.aload_n 0, 1) := by decide +kernel
theorem d6_35 : decode prog_35_method_2_code 35 = .ok (.iload_n 2, 1) := by decide +kernel
theorem d6_36 : decode prog_35_method_2_code 36 = .ok (.iconst 1, 1) := by decide +kernel
theorem d6_37 : decode prog_35_method_2_code 37 = .ok (.isub, 1) := by decide +kernel
theorem d6_38 : decode prog_35_method_2_code 38 = .ok (.invokevirtual 13, 3) := by decide +kernel
theorem d6_41 : decode prog_35_method_2_code 41 = .ok (.invokestatic 17, 3) := by decide +kernel
theorem d6_44 : decode prog_35_method_2_code 44 = .ok (.ifCond .eq 9, 3) := by decide +kernel
theorem rm6_1_0_1 {o1 o2 : Addr} {kd1 : ClassId} {c1 cs1 : Int32} {wf1 : Value} (hw : OwnW a0 Z) (Z0 : n0 ≤ h0.size) (F0 : OEs Z h0 o1) (F1 : OFv Z h0 o1 (.ref o2)) (F2 : OFc Z h0 o1) (F3 : Arv Z h0 o2 kd1 .byte 1 [(.int c1)] (.int 0)) (F4 : OSc Z h0 cs1) (F5 : OSf Z h0 wf1) (hcs : ¬ cs1 = (0 : Int32)) (hwf : wf1.isRef = true) (hs1 : fIs (own_ch c1) = (0 : Int32)) : OwnMF l Z y6 prog_35_method_2_code 3 (some (.object "java/lang/String")) ws ⟨4, 0, 0, 53⟩ #[(.ref o1)] h0 (OwnQ (some (.ref o1)) h0 n0) := by
  refine bo (plainFor_of_name pn_6) ?_
  intro p e s m below meth c T0 G C hnm hnamed X0 e0 K
  have N0 := Fr.nil n0
  refine Goes.to (congrArg T0.setTop (ef_6r m o1)) ?_
  refine g_iconst C X0 d6_0 1 (v := 0) rfl ?_
  refine g_istoreN C X0 d6_1 2 (w := 0) rfl (ls' := #[rv o1, iv 0, uu]) rfl ?_
  refine g_aloadN C X0 d6_2 3 rfl rfl ?_
  refine g_callV0 C X0 (b_8 hw) F0 d6_3 [] [] 0 (rm7_1 hw Z0 F0 F1 F2 F3 F4 hcs) N0 pd_6 e0 6 (fun T1 _ X1 N1 e1 => ?_)
  refine g_istoreN C X1 d6_6 7 (w := 1) rfl (ls' := #[rv o1, iv 0, iv 1]) rfl ?_
  refine g_iloadN C X1 d6_7 8 rfl ?_
  refine g_iloadN C X1 d6_8 9 rfl ?_
  refine g_icmp_ge C X1 d6_9 29 12 (fun hc9 => absurd hc9 (by decide)) (fun hc9 => ?_)
  refine g_aloadN C X1 d6_12 13 rfl rfl ?_
  refine g_iloadN C X1 d6_13 14 rfl ?_
  refine g_callV0 C X1 (b_10 hw) F0 d6_14 [(.int 0)] [] 0 (rm16_1_0 hw Z0 F0 F1 F2 F3 F4 F5 hcs hwf) N1 pd_9 e1 17 (fun T2 _ X2 N2 e2 => ?_)
  refine g_callS0 C X2 (b_11 hw) d6_17 [(.int (own_ch c1))] [] 0 (rm21 hw Z0) N2 pd_10 e2 20 (fun T3 _ X3 N3 e3 => ?_)
  refine g_if_eq C X3 d6_20 29 23 (fun hc20 => ?_) (fun hc20 => absurd hs1 hc20)
  refine g_iloadN C X3 d6_29 30 rfl ?_
  refine g_iloadN C X3 d6_30 31 rfl ?_
  refine g_icmp_le C X3 d6_31 53 34 (fun hc31 => absurd hc31 (by decide)) (fun hc31 => ?_)
  refine g_aloadN C X3 d6_34 35 rfl rfl ?_
  refine g_iloadN C X3 d6_35 36 rfl ?_
  refine g_iconst C X3 d6_36 37 (v := 1) rfl ?_
  refine g_isub C X3 d6_37 38 ?_
  rw [show (1 : Int32) - 1 = 0 from by decide]
  refine g_callV0 C X3 (b_10 hw) F0 d6_38 [(.int 0)] [] 0 (rm16_1_0 hw Z0 F0 F1 F2 F3 F4 F5 hcs hwf) N3 pd_9 e3 41 (fun T4 _ X4 N4 e4 => ?_)
  refine g_callS0 C X4 (b_11 hw) d6_41 [(.int (own_ch c1))] [] 0 (rm21 hw Z0) N4 pd_10 e4 44 (fun T5 _ X5 N5 e5 => ?_)
  refine g_if_eq C X5 d6_44 53 47 (fun hc44 => ?_) (fun hc44 => absurd hc20 hc44)
  refine g_aloadN C X5 d6_53 54 rfl rfl ?_
  refine g_iloadN C X5 d6_54 55 rfl ?_
  refine g_iloadN C X5 d6_55 56 rfl ?_
  refine g_callV0 C X5 (b_9 hw) F0 d6_56 [(.int 0), (.int 1)] [] 0 (rm9_1_0_1 hw Z0 F0 F1 F2 F3 F4 F5 hcs hwf) N5 pd_8 e5 59 (fun T6 _ X6 N6 e6 => ?_)
  exact g_retA C X6 K rfl rfl rfl d6_59 (by decide) (by decide) e6 ⟨rfl, N6, rfl⟩
theorem rm20_2_0n  (hw : OwnW a0 Z) (Z0 : n0 ≤ h0.size) : OwnMF l Z y20 jdk_41_method_11_code 3 (some .int) ws ⟨0, 0, 0, 0⟩ #[(.int 0), (.int 2), .null] h0 (OwnQ (some (.int 0)) h0 n0) := by
  refine bo (plainFor_of_name pn_11) ?_
  intro p e s m below meth c T0 G C hnm hnamed X0 e0 K
  have N0 := Fr.nil n0
  refine Goes.to (congrArg T0.setTop (ef_20iin m (0 : Int32) (2 : Int32))) ?_
  refine g_iloadN C X0 d20_0 1 rfl ?_
  refine g_if_lt C X0 d20_1 9 4 (fun hc1 => absurd hc1 (by decide)) (fun hc1 => ?_)
  refine g_iloadN C X0 d20_4 5 rfl ?_
  refine g_iloadN C X0 d20_5 6 rfl ?_
  refine g_icmp_lt C X0 d20_6 16 9 (fun hc6 => ?_) (fun hc6 => absurd hc6 (by decide))
  refine g_iloadN C X0 d20_16 17 rfl ?_
  exact g_retI C X0 K d20_17 (by decide) (by decide) e0 ⟨rfl, N0, rfl⟩
theorem rm20_2_0r {o1 : Addr} (hw : OwnW a0 Z) (Z0 : n0 ≤ h0.size) : OwnMF l Z y20 jdk_41_method_11_code 3 (some .int) ws ⟨0, 0, 0, 0⟩ #[(.int 0), (.int 2), (.ref o1)] h0 (OwnQ (some (.int 0)) h0 n0) := by
  refine bo (plainFor_of_name pn_11) ?_
  intro p e s m below meth c T0 G C hnm hnamed X0 e0 K
  have N0 := Fr.nil n0
  refine Goes.to (congrArg T0.setTop (ef_20iir m (0 : Int32) (2 : Int32) o1)) ?_
  refine g_iloadN C X0 d20_0 1 rfl ?_
  refine g_if_lt C X0 d20_1 9 4 (fun hc1 => absurd hc1 (by decide)) (fun hc1 => ?_)
  refine g_iloadN C X0 d20_4 5 rfl ?_
  refine g_iloadN C X0 d20_5 6 rfl ?_
  refine g_icmp_lt C X0 d20_6 16 9 (fun hc6 => ?_) (fun hc6 => absurd hc6 (by decide))
  refine g_iloadN C X0 d20_16 17 rfl ?_
  exact g_retI C X0 K d20_17 (by decide) (by decide) e0 ⟨rfl, N0, rfl⟩
theorem rm19_2_0 {wf1 : Value} (hw : OwnW a0 Z) (Z0 : n0 ≤ h0.size) (F0 : OSf Z h0 wf1) (hwf : wf1.isRef = true) : OwnMF l Z y19 jdk_42_method_155_code 2 none ws ⟨1, 0, 0, 14⟩ #[(.int 0), (.int 2)] h0 (OwnQ none h0 n0) := by
  refine bo (plainFor_of_name pn_2) ?_
  intro p e s m below meth c T0 G C hnm hnamed X0 e0 K
  have N0 := Fr.nil n0
  refine Goes.to (congrArg T0.setTop (ef_19ii m (0 : Int32) (2 : Int32))) ?_
  rcases ref_cases hwf with rfl | ⟨sa1, rfl⟩
  · refine g_iloadN C X0 d19_0 1 rfl ?_
    refine g_iloadN C X0 d19_1 2 rfl ?_
    refine g_getS C X0 (w_55 hw) Via.refl e0 F0 d19_2 5 (fun T2 X2 e2 => ?_)
    refine g_callS0 C X2 (b_0 hw) d19_5 [(.int 0), (.int 2), .null] [] 0 (rm20_2_0n hw Z0 ) N0 pd_0 e2 8 (fun T3 _ X3 N3 e3 => ?_)
    refine g_pop C X3 d19_8 9 rfl ?_
    exact g_retV C X3 K d19_9 (by decide) (by decide) e3 ⟨rfl, N3, rfl⟩
  · refine g_iloadN C X0 d19_0 1 rfl ?_
    refine g_iloadN C X0 d19_1 2 rfl ?_
    refine g_getS C X0 (w_55 hw) Via.refl e0 F0 d19_2 5 (fun T4 X4 e4 => ?_)
    refine g_callS0 C X4 (b_0 hw) d19_5 [(.int 0), (.int 2), (.ref sa1)] [] 0 (rm20_2_0r hw Z0 ) N0 pd_0 e4 8 (fun T5 _ X5 N5 e5 => ?_)
    refine g_pop C X5 d19_8 9 rfl ?_
    exact g_retV C X5 K d19_9 (by decide) (by decide) e5 ⟨rfl, N5, rfl⟩
theorem rm18_2_0 {o1 : Addr} {kd1 : ClassId} {c1 c2 : Int32} {wf1 : Value} (hw : OwnW a0 Z) (Z0 : n0 ≤ h0.size) (F0 : Arv Z h0 o1 kd1 .byte 2 [(.int c1), (.int c2)] (.int 0)) (F1 : OSf Z h0 wf1) (hwf : wf1.isRef = true) : OwnMF l Z y18 jdk_43_method_2_code 2 (some .char) ws ⟨2, 0, 0, 27⟩ #[(.ref o1), (.int 0)] h0 (OwnQ (some (.int (own_ch c1))) h0 n0) := by
  refine bo (plainFor_of_name pn_18) ?_
  intro p e s m below meth c T0 G C hnm hnamed X0 e0 K
  have N0 := Fr.nil n0
  refine Goes.to (congrArg T0.setTop (ef_18ri m o1 (0 : Int32))) ?_
  refine g_iloadN C X0 d18_0 1 rfl ?_
  refine g_aloadN C X0 d18_1 2 rfl rfl ?_
  refine g_arraylength C X0 e0 F0 d18_2 3 ?_
  refine g_callSn C X0 (b_1 hw) d18_3 [(.int 0), (.int 2)] [] 0 (rm19_2_0 hw Z0 F1 hwf) N0 pd_1 e0 6 (fun T1 _ X1 N1 e1 => ?_)
  refine g_aloadN C X1 d18_6 7 rfl rfl ?_
  refine g_iloadN C X1 d18_7 8 rfl ?_
  refine g_baload C X1 e1 F0 (by decide) (v := (.int c1)) rfl d18_8 9 ?_
  refine g_sipush C X1 d18_9 12 (v := 255) rfl ?_
  refine g_iand C X1 d18_12 13 ?_
  refine g_i2c C X1 d18_13 14 ?_
  exact g_retN C X1 K (by simp) d18_14 (by decide) (by decide) e1 ⟨rfl, N1, rfl⟩
theorem rm16_2_0 {o1 o2 : Addr} {kd1 : ClassId} {c1 c2 cs1 : Int32} {wf1 : Value} (hw : OwnW a0 Z) (Z0 : n0 ≤ h0.size) (F0 : OEs Z h0 o1) (F1 : OFv Z h0 o1 (.ref o2)) (F2 : OFc Z h0 o1) (F3 : Arv Z h0 o2 kd1 .byte 2 [(.int c1), (.int c2)] (.int 0)) (F4 : OSc Z h0 cs1) (F5 : OSf Z h0 wf1) (hcs : ¬ cs1 = (0 : Int32)) (hwf : wf1.isRef = true) : OwnMF l Z y16 jdk_42_method_56_code 2 (some .char) ws ⟨3, 0, 0, 40⟩ #[(.ref o1), (.int 0)] h0 (OwnQ (some (.int (own_ch c1))) h0 n0) := by
  refine bo (plainFor_of_name pn_2) ?_
  intro p e s m below meth c T0 G C hnm hnamed X0 e0 K
  have N0 := Fr.nil n0
  refine Goes.to (congrArg T0.setTop (ef_16ri m o1 (0 : Int32))) ?_
  refine g_aloadN C X0 d16_0 1 rfl rfl ?_
  refine g_callV0 C X0 (b_2 hw) F0 d16_1 [] [] 0 (rm17 hw Z0 F2 F4 hcs) N0 pd_2 e0 4 (fun T1 _ X1 N1 e1 => ?_)
  refine g_if_eq C X1 d16_4 16 7 (fun hc4 => absurd hc4 (by decide)) (fun hc4 => ?_)
  refine g_aloadN C X1 d16_7 8 rfl rfl ?_
  refine g_getF C X1 (w_25 hw) Via.refl e1 F1 d16_8 11 (fun T2 X2 e2 => ?_)
  refine g_iloadN C X2 d16_11 12 rfl ?_
  refine g_callS0 C X2 (b_3 hw) d16_12 [(.ref o2), (.int 0)] [] 0 (rm18_2_0 hw Z0 F3 F5 hwf) N1 pd_3 e2 15 (fun T3 _ X3 N3 e3 => ?_)
  exact g_retN C X3 K (by simp) d16_15 (by decide) (by decide) e3 ⟨(by rw [own_narr]), N3, rfl⟩
theorem rm20_2_1n  (hw : OwnW a0 Z) (Z0 : n0 ≤ h0.size) : OwnMF l Z y20 jdk_41_method_11_code 3 (some .int) ws ⟨0, 0, 0, 0⟩ #[(.int 1), (.int 2), .null] h0 (OwnQ (some (.int 1)) h0 n0) := by
  refine bo (plainFor_of_name pn_11) ?_
  intro p e s m below meth c T0 G C hnm hnamed X0 e0 K
  have N0 := Fr.nil n0
  refine Goes.to (congrArg T0.setTop (ef_20iin m (1 : Int32) (2 : Int32))) ?_
  refine g_iloadN C X0 d20_0 1 rfl ?_
  refine g_if_lt C X0 d20_1 9 4 (fun hc1 => absurd hc1 (by decide)) (fun hc1 => ?_)
  refine g_iloadN C X0 d20_4 5 rfl ?_
  refine g_iloadN C X0 d20_5 6 rfl ?_
  refine g_icmp_lt C X0 d20_6 16 9 (fun hc6 => ?_) (fun hc6 => absurd hc6 (by decide))
  refine g_iloadN C X0 d20_16 17 rfl ?_
  exact g_retI C X0 K d20_17 (by decide) (by decide) e0 ⟨rfl, N0, rfl⟩
theorem rm20_2_1r {o1 : Addr} (hw : OwnW a0 Z) (Z0 : n0 ≤ h0.size) : OwnMF l Z y20 jdk_41_method_11_code 3 (some .int) ws ⟨0, 0, 0, 0⟩ #[(.int 1), (.int 2), (.ref o1)] h0 (OwnQ (some (.int 1)) h0 n0) := by
  refine bo (plainFor_of_name pn_11) ?_
  intro p e s m below meth c T0 G C hnm hnamed X0 e0 K
  have N0 := Fr.nil n0
  refine Goes.to (congrArg T0.setTop (ef_20iir m (1 : Int32) (2 : Int32) o1)) ?_
  refine g_iloadN C X0 d20_0 1 rfl ?_
  refine g_if_lt C X0 d20_1 9 4 (fun hc1 => absurd hc1 (by decide)) (fun hc1 => ?_)
  refine g_iloadN C X0 d20_4 5 rfl ?_
  refine g_iloadN C X0 d20_5 6 rfl ?_
  refine g_icmp_lt C X0 d20_6 16 9 (fun hc6 => ?_) (fun hc6 => absurd hc6 (by decide))
  refine g_iloadN C X0 d20_16 17 rfl ?_
  exact g_retI C X0 K d20_17 (by decide) (by decide) e0 ⟨rfl, N0, rfl⟩
theorem rm19_2_1 {wf1 : Value} (hw : OwnW a0 Z) (Z0 : n0 ≤ h0.size) (F0 : OSf Z h0 wf1) (hwf : wf1.isRef = true) : OwnMF l Z y19 jdk_42_method_155_code 2 none ws ⟨1, 0, 0, 14⟩ #[(.int 1), (.int 2)] h0 (OwnQ none h0 n0) := by
  refine bo (plainFor_of_name pn_2) ?_
  intro p e s m below meth c T0 G C hnm hnamed X0 e0 K
  have N0 := Fr.nil n0
  refine Goes.to (congrArg T0.setTop (ef_19ii m (1 : Int32) (2 : Int32))) ?_
  rcases ref_cases hwf with rfl | ⟨sa1, rfl⟩
  · refine g_iloadN C X0 d19_0 1 rfl ?_
    refine g_iloadN C X0 d19_1 2 rfl ?_
    refine g_getS C X0 (w_55 hw) Via.refl e0 F0 d19_2 5 (fun T2 X2 e2 => ?_)
    refine g_callS0 C X2 (b_0 hw) d19_5 [(.int 1), (.int 2), .null] [] 0 (rm20_2_1n hw Z0 ) N0 pd_0 e2 8 (fun T3 _ X3 N3 e3 => ?_)
    refine g_pop C X3 d19_8 9 rfl ?_
    exact g_retV C X3 K d19_9 (by decide) (by decide) e3 ⟨rfl, N3, rfl⟩
  · refine g_iloadN C X0 d19_0 1 rfl ?_
    refine g_iloadN C X0 d19_1 2 rfl ?_
    refine g_getS C X0 (w_55 hw) Via.refl e0 F0 d19_2 5 (fun T4 X4 e4 => ?_)
    refine g_callS0 C X4 (b_0 hw) d19_5 [(.int 1), (.int 2), (.ref sa1)] [] 0 (rm20_2_1r hw Z0 ) N0 pd_0 e4 8 (fun T5 _ X5 N5 e5 => ?_)
    refine g_pop C X5 d19_8 9 rfl ?_
    exact g_retV C X5 K d19_9 (by decide) (by decide) e5 ⟨rfl, N5, rfl⟩
theorem rm18_2_1 {o1 : Addr} {kd1 : ClassId} {c1 c2 : Int32} {wf1 : Value} (hw : OwnW a0 Z) (Z0 : n0 ≤ h0.size) (F0 : Arv Z h0 o1 kd1 .byte 2 [(.int c1), (.int c2)] (.int 0)) (F1 : OSf Z h0 wf1) (hwf : wf1.isRef = true) : OwnMF l Z y18 jdk_43_method_2_code 2 (some .char) ws ⟨2, 0, 0, 27⟩ #[(.ref o1), (.int 1)] h0 (OwnQ (some (.int (own_ch c2))) h0 n0) := by
  refine bo (plainFor_of_name pn_18) ?_
  intro p e s m below meth c T0 G C hnm hnamed X0 e0 K
  have N0 := Fr.nil n0
  refine Goes.to (congrArg T0.setTop (ef_18ri m o1 (1 : Int32))) ?_
  refine g_iloadN C X0 d18_0 1 rfl ?_
  refine g_aloadN C X0 d18_1 2 rfl rfl ?_
  refine g_arraylength C X0 e0 F0 d18_2 3 ?_
  refine g_callSn C X0 (b_1 hw) d18_3 [(.int 1), (.int 2)] [] 0 (rm19_2_1 hw Z0 F1 hwf) N0 pd_1 e0 6 (fun T1 _ X1 N1 e1 => ?_)
  refine g_aloadN C X1 d18_6 7 rfl rfl ?_
  refine g_iloadN C X1 d18_7 8 rfl ?_
  refine g_baload C X1 e1 F0 (by decide) (v := (.int c2)) rfl d18_8 9 ?_
  refine g_sipush C X1 d18_9 12 (v := 255) rfl ?_
  refine g_iand C X1 d18_12 13 ?_
  refine g_i2c C X1 d18_13 14 ?_
  exact g_retN C X1 K (by simp) d18_14 (by decide) (by decide) e1 ⟨rfl, N1, rfl⟩
theorem rm16_2_1 {o1 o2 : Addr} {kd1 : ClassId} {c1 c2 cs1 : Int32} {wf1 : Value} (hw : OwnW a0 Z) (Z0 : n0 ≤ h0.size) (F0 : OEs Z h0 o1) (F1 : OFv Z h0 o1 (.ref o2)) (F2 : OFc Z h0 o1) (F3 : Arv Z h0 o2 kd1 .byte 2 [(.int c1), (.int c2)] (.int 0)) (F4 : OSc Z h0 cs1) (F5 : OSf Z h0 wf1) (hcs : ¬ cs1 = (0 : Int32)) (hwf : wf1.isRef = true) : OwnMF l Z y16 jdk_42_method_56_code 2 (some .char) ws ⟨3, 0, 0, 40⟩ #[(.ref o1), (.int 1)] h0 (OwnQ (some (.int (own_ch c2))) h0 n0) := by
  refine bo (plainFor_of_name pn_2) ?_
  intro p e s m below meth c T0 G C hnm hnamed X0 e0 K
  have N0 := Fr.nil n0
  refine Goes.to (congrArg T0.setTop (ef_16ri m o1 (1 : Int32))) ?_
  refine g_aloadN C X0 d16_0 1 rfl rfl ?_
  refine g_callV0 C X0 (b_2 hw) F0 d16_1 [] [] 0 (rm17 hw Z0 F2 F4 hcs) N0 pd_2 e0 4 (fun T1 _ X1 N1 e1 => ?_)
  refine g_if_eq C X1 d16_4 16 7 (fun hc4 => absurd hc4 (by decide)) (fun hc4 => ?_)
  refine g_aloadN C X1 d16_7 8 rfl rfl ?_
  refine g_getF C X1 (w_25 hw) Via.refl e1 F1 d16_8 11 (fun T2 X2 e2 => ?_)
  refine g_iloadN C X2 d16_11 12 rfl ?_
  refine g_callS0 C X2 (b_3 hw) d16_12 [(.ref o2), (.int 1)] [] 0 (rm18_2_1 hw Z0 F3 F5 hwf) N1 pd_3 e2 15 (fun T3 _ X3 N3 e3 => ?_)
  exact g_retN C X3 K (by simp) d16_15 (by decide) (by decide) e3 ⟨(by rw [own_narr]), N3, rfl⟩
theorem rm7_2 {o1 o2 : Addr} {kd1 : ClassId} {c1 c2 cs1 : Int32} (hw : OwnW a0 Z) (Z0 : n0 ≤ h0.size) (F0 : OEs Z h0 o1) (F1 : OFv Z h0 o1 (.ref o2)) (F2 : OFc Z h0 o1) (F3 : Arv Z h0 o2 kd1 .byte 2 [(.int c1), (.int c2)] (.int 0)) (F4 : OSc Z h0 cs1) (hcs : ¬ cs1 = (0 : Int32)) : OwnMF l Z y7 jdk_42_method_54_code 1 (some .int) ws ⟨1, 0, 0, 13⟩ #[(.ref o1)] h0 (OwnQ (some (.int 2)) h0 n0) := by
  refine bo (plainFor_of_name pn_2) ?_
  intro p e s m below meth c T0 G C hnm hnamed X0 e0 K
  have N0 := Fr.nil n0
  refine Goes.to (congrArg T0.setTop (ef_7r m o1)) ?_
  refine g_aloadN C X0 d7_0 1 rfl rfl ?_
  refine g_getF C X0 (w_25 hw) Via.refl e0 F1 d7_1 4 (fun T1 X1 e1 => ?_)
  refine g_arraylength C X1 e1 F3 d7_4 5 ?_
  refine g_aloadN C X1 d7_5 6 rfl rfl ?_
  refine g_callV0 C X1 (b_5 hw) F0 d7_6 [] [(.int 2)] 1 (rm8 hw Z0 F2 F4 hcs) N0 pd_5 e1 9 (fun T2 _ X2 N2 e2 => ?_)
  refine g_ishr C X2 d7_9 10 ?_
  exact g_retI C X2 K d7_10 (by decide) (by decide) e2 ⟨(by decide), N2, rfl⟩
theorem ef_25ii (m : MethodId) (a1 : Int32) (a2 : Int32) : entryFrame m #[(.int a1), (.int a2)] 2 = mkF m 0 #[iv a1, iv a2] [] := by first | (simp [entryFrame, mkF, argsToLocals, Value.category, iv, rv, jv, nv, uu, sd]; done) | rfl
theorem d25_0 : decode jdk_65_method_131_code 0 = .ok (.iload_n 1, 1) := by decide +kernel
theorem d25_1 : decode jdk_65_method_131_code 1 = .ok (.iload_n 0, 1) := by decide +kernel
theorem d25_2 : decode jdk_65_method_131_code 2 = .ok (.if_icmp .ge 35, 3) := by decide +kernel
theorem d25_37 : decode jdk_65_method_131_code 37 = .ok (.return_, 1) := by decide +kernel
abbrev y25 : MethodName := (⟨"java/util/Arrays", "checkLength", "(II)V"⟩ : MethodName)
theorem pn_23 : plainName "java/util/Arrays" = true := by first | (simp [plainName, overriddenIn]; done) | decide +kernel
theorem rm25_0_1  (hw : OwnW a0 Z) (Z0 : n0 ≤ h0.size) : OwnMF l Z y25 jdk_65_method_131_code 2 none ws ⟨0, 0, 0, 0⟩ #[(.int 0), (.int 1)] h0 (OwnQ none h0 n0) := by
  refine bo (plainFor_of_name pn_23) ?_
  intro p e s m below meth c T0 G C hnm hnamed X0 e0 K
  have N0 := Fr.nil n0
  refine Goes.to (congrArg T0.setTop (ef_25ii m (0 : Int32) (1 : Int32))) ?_
  refine g_iloadN C X0 d25_0 1 rfl ?_
  refine g_iloadN C X0 d25_1 2 rfl ?_
  refine g_icmp_ge C X0 d25_2 37 5 (fun hc2 => ?_) (fun hc2 => absurd hc2 (by decide))
  exact g_retV C X0 K d25_37 (by decide) (by decide) e0 ⟨rfl, N0, rfl⟩
theorem ef_24rii (m : MethodId) (a1 : Addr) (a2 : Int32) (a3 : Int32) : entryFrame m #[(.ref a1), (.int a2), (.int a3)] 5 = mkF m 0 #[rv a1, iv a2, iv a3, uu, uu] [] := by first | (simp [entryFrame, mkF, argsToLocals, Value.category, iv, rv, jv, nv, uu, sd]; done) | rfl
theorem d24_0 : decode jdk_65_method_133_code 0 = .ok (.iload_n 1, 1) := by decide +kernel
theorem d24_1 : decode jdk_65_method_133_code 1 = .ok (.iload_n 2, 1) := by decide +kernel
theorem d24_2 : decode jdk_65_method_133_code 2 = .ok (.invokestatic 343, 3) := by decide +kernel
theorem w_111 {Z : State} {a0 : Array Value} (hw : ∀ d ∈ tables_1, d.before a0 Z = true) : Jvm.Cond.before (Jvm.Cond.code ({ cls := "java/util/Arrays", name := "checkLength", desc := "(II)V" } : Jvm.MethodName) jdk_65_method_131_code (2 : Nat) (Option.none : Option Jvm.ClassFile.FieldType)) a0 Z = true := hw _ (List.mem_of_getElem? (i := 111) rfl)
theorem w_104 {Z : State} {a0 : Array Value} (hw : ∀ d ∈ tables_1, d.before a0 Z = true) : Jvm.Cond.before (Jvm.Cond.initialized "java/util/Arrays") a0 Z = true := hw _ (List.mem_of_getElem? (i := 104) rfl)
theorem w_109 {Z : State} {a0 : Array Value} (hw : ∀ d ∈ tables_1, d.before a0 Z = true) : Jvm.Cond.before (Jvm.Cond.methodLink "java/util/Arrays" (343 : Nat) ({ cls := "java/util/Arrays", name := "checkLength", desc := "(II)V" } : Jvm.MethodName)) a0 Z = true := hw _ (List.mem_of_getElem? (i := 109) rfl)
theorem w_110 {Z : State} {a0 : Array Value} (hw : ∀ d ∈ tables_1, d.before a0 Z = true) : Jvm.Cond.before (Jvm.Cond.static ({ cls := "java/util/Arrays", name := "checkLength", desc := "(II)V" } : Jvm.MethodName)) a0 Z = true := hw _ (List.mem_of_getElem? (i := 110) rfl)
theorem b_12 (hw : OwnW a0 Z) : CallS "java/util/Arrays" 343 (⟨"java/util/Arrays", "checkLength", "(II)V"⟩ : MethodName) jdk_65_method_131_code (2 : Nat) (Option.none : Option Jvm.ClassFile.FieldType) a0 Z := ⟨(w_109 hw), (w_110 hw), (w_104 hw), (w_111 hw)⟩
theorem d24_5 : decode jdk_65_method_133_code 5 = .ok (.iload_n 2, 1) := by decide +kernel
theorem d24_6 : decode jdk_65_method_133_code 6 = .ok (.iload_n 1, 1) := by decide +kernel
theorem d24_7 : decode jdk_65_method_133_code 7 = .ok (.isub, 1) := by decide +kernel
theorem d24_8 : decode jdk_65_method_133_code 8 = .ok (.istore_n 3, 1) := by decide +kernel
theorem d24_9 : decode jdk_65_method_133_code 9 = .ok (.iload_n 3, 1) := by decide +kernel
theorem d24_10 : decode jdk_65_method_133_code 10 = .ok (.newarray .byte, 2) := by decide +kernel
theorem w_20 {Z : State} {a0 : Array Value} (hw : ∀ d ∈ tables_1, d.before a0 Z = true) : Jvm.Cond.before (Jvm.Cond.arrayClass Jvm.ClassFile.FieldType.byte) a0 Z = true := hw _ (List.mem_of_getElem? (i := 20) rfl)
theorem d24_12 : decode jdk_65_method_133_code 12 = .ok (.astore 4, 2) := by decide +kernel
theorem d24_14 : decode jdk_65_method_133_code 14 = .ok (.aload_n 0, 1) := by decide +kernel
theorem d24_15 : decode jdk_65_method_133_code 15 = .ok (.iload_n 1, 1) := by decide +kernel
theorem d24_16 : decode jdk_65_method_133_code 16 = .ok (.aload 4, 2) := by decide +kernel
theorem d24_18 : decode jdk_65_method_133_code 18 = .ok (.iconst 0, 1) := by decide +kernel
theorem d24_19 : decode jdk_65_method_133_code 19 = .ok (.aload_n 0, 1) := by decide +kernel
theorem d24_20 : decode jdk_65_method_133_code 20 = .ok (.arraylength, 1) := by decide +kernel
theorem d24_21 : decode jdk_65_method_133_code 21 = .ok (.iload_n 1, 1) := by decide +kernel
theorem d24_22 : decode jdk_65_method_133_code 22 = .ok (.isub, 1) := by decide +kernel
theorem d24_23 : decode jdk_65_method_133_code 23 = .ok (.iload_n 3, 1) := by decide +kernel
theorem d24_24 : decode jdk_65_method_133_code 24 = .ok (.invokestatic 304, 3) := by decide +kernel
theorem w_114 {Z : State} {a0 : Array Value} (hw : ∀ d ∈ tables_1, d.before a0 Z = true) : Jvm.Cond.before (Jvm.Cond.code ({ cls := "java/lang/Math", name := "min", desc := "(II)I" } : Jvm.MethodName) jdk_29_method_69_code (2 : Nat) (Option.some Jvm.ClassFile.FieldType.int)) a0 Z = true := hw _ (List.mem_of_getElem? (i := 114) rfl)
theorem w_29 {Z : State} {a0 : Array Value} (hw : ∀ d ∈ tables_1, d.before a0 Z = true) : Jvm.Cond.before (Jvm.Cond.initialized "java/lang/Math") a0 Z = true := hw _ (List.mem_of_getElem? (i := 29) rfl)
theorem w_112 {Z : State} {a0 : Array Value} (hw : ∀ d ∈ tables_1, d.before a0 Z = true) : Jvm.Cond.before (Jvm.Cond.methodLink "java/util/Arrays" (304 : Nat) ({ cls := "java/lang/Math", name := "min", desc := "(II)I" } : Jvm.MethodName)) a0 Z = true := hw _ (List.mem_of_getElem? (i := 112) rfl)
theorem pd_11 : parseMethodDescriptor "(II)I" = some ⟨[.int, .int], some .int⟩ := by decide +kernel
theorem w_113 {Z : State} {a0 : Array Value} (hw : ∀ d ∈ tables_1, d.before a0 Z = true) : Jvm.Cond.before (Jvm.Cond.static ({ cls := "java/lang/Math", name := "min", desc := "(II)I" } : Jvm.MethodName)) a0 Z = true := hw _ (List.mem_of_getElem? (i := 113) rfl)
theorem b_13 (hw : OwnW a0 Z) : CallS "java/util/Arrays" 304 (⟨"java/lang/Math", "min", "(II)I"⟩ : MethodName) jdk_29_method_69_code (2 : Nat) (Option.some Jvm.ClassFile.FieldType.int) a0 Z := ⟨(w_112 hw), (w_113 hw), (w_29 hw), (w_114 hw)⟩
theorem d24_27 : decode jdk_65_method_133_code 27 = .ok (.invokestatic 150, 3) := by decide +kernel
theorem w_115 {Z : State} {a0 : Array Value} (hw : ∀ d ∈ tables_1, d.before a0 Z = true) : Jvm.Cond.before (Jvm.Cond.methodLink "java/util/Arrays" (150 : Nat) ({ cls := "java/lang/System", name := "arraycopy", desc := "(Ljava/lang/Object;ILjava/lang/Object;II)V" } : Jvm.MethodName)) a0 Z = true := hw _ (List.mem_of_getElem? (i := 115) rfl)
theorem w_118 {Z : State} {a0 : Array Value} (hw : ∀ d ∈ tables_1, d.before a0 Z = true) : Jvm.Cond.before (Jvm.Cond.native ({ cls := "java/lang/System", name := "arraycopy", desc := "(Ljava/lang/Object;ILjava/lang/Object;II)V" } : Jvm.MethodName)) a0 Z = true := hw _ (List.mem_of_getElem? (i := 118) rfl)
theorem w_116 {Z : State} {a0 : Array Value} (hw : ∀ d ∈ tables_1, d.before a0 Z = true) : Jvm.Cond.before (Jvm.Cond.static ({ cls := "java/lang/System", name := "arraycopy", desc := "(Ljava/lang/Object;ILjava/lang/Object;II)V" } : Jvm.MethodName)) a0 Z = true := hw _ (List.mem_of_getElem? (i := 116) rfl)
theorem w_117 {Z : State} {a0 : Array Value} (hw : ∀ d ∈ tables_1, d.before a0 Z = true) : Jvm.Cond.before (Jvm.Cond.initialized "java/lang/System") a0 Z = true := hw _ (List.mem_of_getElem? (i := 117) rfl)
theorem d24_30 : decode jdk_65_method_133_code 30 = .ok (.aload 4, 2) := by decide +kernel
theorem d24_32 : decode jdk_65_method_133_code 32 = .ok (.areturn, 1) := by decide +kernel
def Q24_2_0_1 (Z : State) (o1 : Addr) (kd1 : ClassId) (c1 : Int32) (c2 : Int32) (h0 : Heap) (n0 : Nat) (v : Option Value) (h : Heap) (L : List Loc) : Prop := ∃ (o3 : Addr) (kd3 : ClassId), v = some (.ref o3) ∧ Fr n0 L ∧ h0.size ≤ o3 ∧ Keep h0 h [] ∧ Arv Z h o3 kd3 .byte 1 [(.int c1)] (.int 0)
abbrev y24 : MethodName := (⟨"java/util/Arrays", "copyOfRangeByte", "([BII)[B"⟩ : MethodName)
theorem rm24_2_0_1 {o1 : Addr} {kd1 : ClassId} {c1 c2 : Int32} (hw : OwnW a0 Z) (Z0 : n0 ≤ h0.size) (F0 : Arv Z h0 o1 kd1 .byte 2 [(.int c1), (.int c2)] (.int 0)) : OwnMF l Z y24 jdk_65_method_133_code 5 (some (.array .byte)) ws ⟨1, 1, 1, 18⟩ #[(.ref o1), (.int 0), (.int 1)] h0 (Q24_2_0_1 Z o1 kd1 c1 c2 h0 n0) := by
  refine bo (plainFor_of_name pn_23) ?_
  intro p e s m below meth c T0 G C hnm hnamed X0 e0 K
  have N0 := Fr.nil n0
  refine Goes.to (congrArg T0.setTop (ef_24rii m o1 (0 : Int32) (1 : Int32))) ?_
  have K00 := Keep.refl h0 []
  refine g_iloadN C X0 d24_0 1 rfl ?_
  refine g_iloadN C X0 d24_1 2 rfl ?_
  refine g_callSn C X0 (b_12 hw) d24_2 [(.int 0), (.int 1)] [] 0 (rm25_0_1 hw Z0 ) N0 pd_1 e0 5 (fun T1 _ X1 N1 e1 => ?_)
  refine g_iloadN C X1 d24_5 6 rfl ?_
  refine g_iloadN C X1 d24_6 7 rfl ?_
  refine g_isub C X1 d24_7 8 ?_
  rw [show (1 : Int32) - 0 = 1 from by decide]
  refine g_istoreN C X1 d24_8 9 (w := 1) rfl (ls' := #[rv o1, iv 0, iv 1, iv 1, uu]) rfl ?_
  refine g_iloadN C X1 d24_9 10 rfl ?_
  refine g_newA (aty := .byte) (n := (1 : Int32)) C X1 (cap := 1) (w_20 hw) e1 d24_10 12 (by decide) (by decide) (by decide) (by decide) (by decide) (fun T2 h2 b2 ki2 X2 e2 g2 E2 A2 => ?_)
  have f4 := F0.ext E2
  have gn_b2 : n0 ≤ b2 := Nat.le_trans Z0 (Nat.le_of_eq g2.symm)
  have Z2 := Nat.le_trans Z0 E2.1
  have sz_b2 : h0.size ≤ b2 := Nat.le_trans K00.1 (Nat.le_of_eq g2.symm)
  have K2 := K00.ext E2
  have f5 : Arv Z h2 b2 ki2 .byte 1 [(.int 0)] (.int 0) := A2.pad (pad_rep [] (.int 0) 1)
  refine g_astore C X2 d24_12 14 rfl (ls' := #[rv o1, iv 0, iv 1, iv 1, rv b2]) rfl ?_
  refine g_aloadN C X2 d24_14 15 rfl rfl ?_
  refine g_iloadN C X2 d24_15 16 rfl ?_
  refine g_aload C X2 d24_16 18 rfl rfl ?_
  refine g_iconst C X2 d24_18 19 (v := 0) rfl ?_
  refine g_aloadN C X2 d24_19 20 rfl rfl ?_
  refine g_arraylength C X2 e2 f4 d24_20 21 ?_
  refine g_iloadN C X2 d24_21 22 rfl ?_
  refine g_isub C X2 d24_22 23 ?_
  rw [show (2 : Int32) - 0 = 2 from by decide]
  refine g_iloadN C X2 d24_23 24 rfl ?_
  refine g_callS0 C X2 (b_13 hw) d24_24 [(.int 2), (.int 1)] [(.int 0), (.ref b2), (.int 0), (.ref o1)] 4 (rm26 hw Z2) N1 pd_11 e2 27 (fun T6 _ X6 N6 e6 => ?_)
  rw [show fMin (2 : Int32) (1 : Int32) = (1 : Int32) from by decide]
  refine g_acopy C X6 (us := [(.int c1)]) (ur := [(.int c1)]) (w_115 hw) (w_118 hw) (w_116 hw) (w_117 hw) e6 f4 f5 rfl (by decide) (by decide) (by decide) (by decide) (by decide) rfl (by simp; try decide) rfl N6 gn_b2 rfl d24_27 30 (by decide) (W := 0) (Nat.le_of_eq rfl) (by decide) (fun T7 h7 L7 X7 e7 N7 Kq7 V7 => ?_)
  have K7 := K2.trans Kq7 (allS (Or.inr sz_b2) all0)
  refine g_aload C X7 d24_30 32 rfl rfl ?_
  exact g_retA C X7 K rfl rfl rfl d24_32 (by decide) (by decide) e7 ⟨b2, ki2, rfl, N7, sz_b2, K7, V7⟩
theorem ef_23rii (m : MethodId) (a1 : Addr) (a2 : Int32) (a3 : Int32) : entryFrame m #[(.ref a1), (.int a2), (.int a3)] 3 = mkF m 0 #[rv a1, iv a2, iv a3] [] := by first | (simp [entryFrame, mkF, argsToLocals, Value.category, iv, rv, jv, nv, uu, sd]; done) | rfl
theorem d23_0 : decode jdk_65_method_132_code 0 = .ok (.iload_n 1, 1) := by decide +kernel
theorem d23_1 : decode jdk_65_method_132_code 1 = .ok (.ifCond .ne 9, 3) := by decide +kernel
theorem d23_4 : decode jdk_65_method_132_code 4 = .ok (.iload_n 2, 1) := by decide +kernel
theorem d23_5 : decode jdk_65_method_132_code 5 = .ok (.aload_n 0, 1) := by decide +kernel
theorem d23_6 : decode jdk_65_method_132_code 6 = .ok (.arraylength, 1) := by decide +kernel
theorem d23_7 : decode jdk_65_method_132_code 7 = .ok (.if_icmp .eq 10, 3) := by decide +kernel
theorem d23_10 : decode jdk_65_method_132_code 10 = .ok (.aload_n 0, 1) := by decide +kernel
theorem d23_11 : decode jdk_65_method_132_code 11 = .ok (.iload_n 1, 1) := by decide +kernel
theorem d23_12 : decode jdk_65_method_132_code 12 = .ok (.iload_n 2, 1) := by decide +kernel
theorem d23_13 : decode jdk_65_method_132_code 13 = .ok (.invokestatic 339, 3) := by decide +kernel
theorem w_108 {Z : State} {a0 : Array Value} (hw : ∀ d ∈ tables_1, d.before a0 Z = true) : Jvm.Cond.before (Jvm.Cond.code ({ cls := "java/util/Arrays", name := "copyOfRangeByte", desc := "([BII)[B" } : Jvm.MethodName) jdk_65_method_133_code (5 : Nat) (Option.some (Jvm.ClassFile.FieldType.array Jvm.ClassFile.FieldType.byte))) a0 Z = true := hw _ (List.mem_of_getElem? (i := 108) rfl)
theorem w_106 {Z : State} {a0 : Array Value} (hw : ∀ d ∈ tables_1, d.before a0 Z = true) : Jvm.Cond.before (Jvm.Cond.methodLink "java/util/Arrays" (339 : Nat) ({ cls := "java/util/Arrays", name := "copyOfRangeByte", desc := "([BII)[B" } : Jvm.MethodName)) a0 Z = true := hw _ (List.mem_of_getElem? (i := 106) rfl)
theorem pd_12 : parseMethodDescriptor "([BII)[B" = some ⟨[(.array .byte), .int, .int], some (.array .byte)⟩ := by decide +kernel
theorem w_107 {Z : State} {a0 : Array Value} (hw : ∀ d ∈ tables_1, d.before a0 Z = true) : Jvm.Cond.before (Jvm.Cond.static ({ cls := "java/util/Arrays", name := "copyOfRangeByte", desc := "([BII)[B" } : Jvm.MethodName)) a0 Z = true := hw _ (List.mem_of_getElem? (i := 107) rfl)
theorem d23_16 : decode jdk_65_method_132_code 16 = .ok (.areturn, 1) := by decide +kernel
def Q23_2_0_1 (Z : State) (o1 : Addr) (kd1 : ClassId) (c1 : Int32) (c2 : Int32) (h0 : Heap) (n0 : Nat) (v : Option Value) (h : Heap) (L : List Loc) : Prop := ∃ (o3 : Addr) (kd3 : ClassId), v = some (.ref o3) ∧ Fr n0 L ∧ h0.size ≤ o3 ∧ Keep h0 h [] ∧ Arv Z h o3 kd3 .byte 1 [(.int c1)] (.int 0)
abbrev y23 : MethodName := (⟨"java/util/Arrays", "copyOfRange", "([BII)[B"⟩ : MethodName)
theorem rm23_2_0_1 {o1 : Addr} {kd1 : ClassId} {c1 c2 : Int32} (hw : OwnW a0 Z) (Z0 : n0 ≤ h0.size) (F0 : Arv Z h0 o1 kd1 .byte 2 [(.int c1), (.int c2)] (.int 0)) : OwnMF l Z y23 jdk_65_method_132_code 3 (some (.array .byte)) ws ⟨2, 1, 1, 34⟩ #[(.ref o1), (.int 0), (.int 1)] h0 (Q23_2_0_1 Z o1 kd1 c1 c2 h0 n0) := by
  refine bo (plainFor_of_name pn_23) ?_
  intro p e s m below meth c T0 G C hnm hnamed X0 e0 K
  have N0 := Fr.nil n0
  refine Goes.to (congrArg T0.setTop (ef_23rii m o1 (0 : Int32) (1 : Int32))) ?_
  have K00 := Keep.refl h0 []
  refine g_iloadN C X0 d23_0 1 rfl ?_
  refine g_if_ne C X0 d23_1 10 4 (fun hc1 => absurd hc1 (by decide)) (fun hc1 => ?_)
  refine g_iloadN C X0 d23_4 5 rfl ?_
  refine g_aloadN C X0 d23_5 6 rfl rfl ?_
  refine g_arraylength C X0 e0 F0 d23_6 7 ?_
  refine g_icmp_eq C X0 d23_7 17 10 (fun hc7 => absurd hc7 (by decide)) (fun hc7 => ?_)
  refine g_aloadN C X0 d23_10 11 rfl rfl ?_
  refine g_iloadN C X0 d23_11 12 rfl ?_
  refine g_iloadN C X0 d23_12 13 rfl ?_
  refine g_callS C X0 (w_106 hw) (w_107 hw) (w_104 hw) (w_108 hw) d23_13 [(.ref o1), (.int 0), (.int 1)] [] 0 (rm24_2_0_1 hw Z0 F0) pd_12 e0 16 (fun u1 T1 L1 X1 hQ1 => ?_)
  obtain ⟨o31, kd31, rfl, Nq1, szo31, Kq1, q1_0⟩ := hQ1
  have N1 := Fr.app N0 Nq1
  have sz_o31 : h0.size ≤ o31 := Nat.le_trans K00.1 szo31
  have K1 := K00.trans Kq1 all0
  refine ret1 ?_
  exact g_retA C X1 K rfl rfl rfl d23_16 (by decide) (by decide) rfl ⟨o31, kd31, rfl, N1, sz_o31, K1, q1_0⟩
theorem ef_22rii (m : MethodId) (a1 : Addr) (a2 : Int32) (a3 : Int32) : entryFrame m #[(.ref a1), (.int a2), (.int a3)] 3 = mkF m 0 #[rv a1, iv a2, iv a3] [] := by first | (simp [entryFrame, mkF, argsToLocals, Value.category, iv, rv, jv, nv, uu, sd]; done) | rfl
theorem d22_0 : decode jdk_43_method_47_code 0 = .ok (.iload_n 2, 1) := by decide +kernel
theorem d22_1 : decode jdk_43_method_47_code 1 = .ok (.ifCond .ne 6, 3) := by decide +kernel
theorem d22_7 : decode jdk_43_method_47_code 7 = .ok (.new 1, 3) := by decide +kernel
theorem w_101 {Z : State} {a0 : Array Value} (hw : ∀ d ∈ tables_1, d.before a0 Z = true) : Jvm.Cond.before (Jvm.Cond.classLink "java/lang/StringLatin1" (1 : Nat) "java/lang/String") a0 Z = true := hw _ (List.mem_of_getElem? (i := 101) rfl)
theorem d22_10 : decode jdk_43_method_47_code 10 = .ok (.dup, 1) := by decide +kernel
theorem d22_11 : decode jdk_43_method_47_code 11 = .ok (.aload_n 0, 1) := by decide +kernel
theorem d22_12 : decode jdk_43_method_47_code 12 = .ok (.iload_n 1, 1) := by decide +kernel
theorem d22_13 : decode jdk_43_method_47_code 13 = .ok (.iload_n 1, 1) := by decide +kernel
theorem d22_14 : decode jdk_43_method_47_code 14 = .ok (.iload_n 2, 1) := by decide +kernel
theorem d22_15 : decode jdk_43_method_47_code 15 = .ok (.iadd, 1) := by decide +kernel
theorem d22_16 : decode jdk_43_method_47_code 16 = .ok (.invokestatic 232, 3) := by decide +kernel
theorem w_105 {Z : State} {a0 : Array Value} (hw : ∀ d ∈ tables_1, d.before a0 Z = true) : Jvm.Cond.before (Jvm.Cond.code ({ cls := "java/util/Arrays", name := "copyOfRange", desc := "([BII)[B" } : Jvm.MethodName) jdk_65_method_132_code (3 : Nat) (Option.some (Jvm.ClassFile.FieldType.array Jvm.ClassFile.FieldType.byte))) a0 Z = true := hw _ (List.mem_of_getElem? (i := 105) rfl)
theorem w_102 {Z : State} {a0 : Array Value} (hw : ∀ d ∈ tables_1, d.before a0 Z = true) : Jvm.Cond.before (Jvm.Cond.methodLink "java/lang/StringLatin1" (232 : Nat) ({ cls := "java/util/Arrays", name := "copyOfRange", desc := "([BII)[B" } : Jvm.MethodName)) a0 Z = true := hw _ (List.mem_of_getElem? (i := 102) rfl)
theorem w_103 {Z : State} {a0 : Array Value} (hw : ∀ d ∈ tables_1, d.before a0 Z = true) : Jvm.Cond.before (Jvm.Cond.static ({ cls := "java/util/Arrays", name := "copyOfRange", desc := "([BII)[B" } : Jvm.MethodName)) a0 Z = true := hw _ (List.mem_of_getElem? (i := 103) rfl)
theorem d22_19 : decode jdk_43_method_47_code 19 = .ok (.iconst 0, 1) := by decide +kernel
theorem d22_20 : decode jdk_43_method_47_code 20 = .ok (.invokespecial 112, 3) := by decide +kernel
theorem w_121 {Z : State} {a0 : Array Value} (hw : ∀ d ∈ tables_1, d.before a0 Z = true) : Jvm.Cond.before (Jvm.Cond.code ({ cls := "java/lang/String", name := "<init>", desc := "([BB)V" } : Jvm.MethodName) jdk_42_method_151_code (3 : Nat) (Option.none : Option Jvm.ClassFile.FieldType)) a0 Z = true := hw _ (List.mem_of_getElem? (i := 121) rfl)
theorem w_119 {Z : State} {a0 : Array Value} (hw : ∀ d ∈ tables_1, d.before a0 Z = true) : Jvm.Cond.before (Jvm.Cond.methodLink "java/lang/StringLatin1" (112 : Nat) ({ cls := "java/lang/String", name := "<init>", desc := "([BB)V" } : Jvm.MethodName)) a0 Z = true := hw _ (List.mem_of_getElem? (i := 119) rfl)
theorem pd_13 : parseMethodDescriptor "([BB)V" = some ⟨[(.array .byte), .byte], none⟩ := by decide +kernel
theorem w_120 {Z : State} {a0 : Array Value} (hw : ∀ d ∈ tables_1, d.before a0 Z = true) : Jvm.Cond.before (Jvm.Cond.instanceMethod ({ cls := "java/lang/String", name := "<init>", desc := "([BB)V" } : Jvm.MethodName)) a0 Z = true := hw _ (List.mem_of_getElem? (i := 120) rfl)
theorem d22_23 : decode jdk_43_method_47_code 23 = .ok (.areturn, 1) := by decide +kernel
def Q22_2_0_1 (Z : State) (o1 : Addr) (kd1 : ClassId) (c1 : Int32) (c2 : Int32) (h0 : Heap) (n0 : Nat) (v : Option Value) (h : Heap) (L : List Loc) : Prop := ∃ (o3 : Addr) (o4 : Addr) (kd3 : ClassId), v = some (.ref o3) ∧ Fr n0 L ∧ h0.size ≤ o3 ∧ h0.size ≤ o4 ∧ Keep h0 h [] ∧ OEs Z h o3 ∧ OFv Z h o3 (.ref o4) ∧ OFc Z h o3 ∧ Arv Z h o4 kd3 .byte 1 [(.int c1)] (.int 0)
abbrev y22 : MethodName := (⟨"java/lang/StringLatin1", "newString", "([BII)Ljava/lang/String;"⟩ : MethodName)
theorem rm22_2_0_1 {o1 : Addr} {kd1 : ClassId} {c1 c2 : Int32} (hw : OwnW a0 Z) (Z0 : n0 ≤ h0.size) (F0 : Arv Z h0 o1 kd1 .byte 2 [(.int c1), (.int c2)] (.int 0)) : OwnMF l Z y22 jdk_43_method_47_code 3 (some (.object "java/lang/String")) ws ⟨3, 2, 5, 50⟩ #[(.ref o1), (.int 0), (.int 1)] h0 (Q22_2_0_1 Z o1 kd1 c1 c2 h0 n0) := by
  refine bo (plainFor_of_name pn_18) ?_
  intro p e s m below meth c T0 G C hnm hnamed X0 e0 K
  have N0 := Fr.nil n0
  refine Goes.to (congrArg T0.setTop (ef_22rii m o1 (0 : Int32) (1 : Int32))) ?_
  have K00 := Keep.refl h0 []
  refine g_iloadN C X0 d22_0 1 rfl ?_
  refine g_if_ne C X0 d22_1 7 4 (fun hc1 => ?_) (fun hc1 => absurd hc1 (by decide))
  refine g_new C X0 (w_101 hw) (w_7 hw) (w_8 hw) e0 d22_7 10 (by decide) (by decide) (fun T1 h1 b1 X1 e1 g1 E1 A1 D1 => ?_)
  have f3 := F0.ext E1
  have gn_b1 : n0 ≤ b1 := Nat.le_trans Z0 (Nat.le_of_eq g1.symm)
  have Z1 := Nat.le_trans Z0 E1.1
  have sz_b1 : h0.size ≤ b1 := Nat.le_trans K00.1 (Nat.le_of_eq g1.symm)
  have K1 := K00.ext E1
  have f4 : OFv Z h1 b1 .null := D1 (Or.inr (w_21 hw)) (ty := (.array .byte)) (by decide)
  have f5 : OFc Z h1 b1 := D1 (Or.inr (w_22 hw)) (ty := .byte) (by decide)
  refine g_dup C X1 d22_10 11 rfl ?_
  refine g_aloadN C X1 d22_11 12 rfl rfl ?_
  refine g_iloadN C X1 d22_12 13 rfl ?_
  refine g_iloadN C X1 d22_13 14 rfl ?_
  refine g_iloadN C X1 d22_14 15 rfl ?_
  refine g_iadd C X1 d22_15 16 ?_
  rw [show (0 : Int32) + 1 = 1 from by decide]
  refine g_callS C X1 (w_102 hw) (w_103 hw) (w_104 hw) (w_105 hw) d22_16 [(.ref o1), (.int 0), (.int 1)] [(.ref b1), (.ref b1)] 2 (rm23_2_0_1 hw Z1 f3) pd_12 e1 19 (fun u6 T6 L6 X6 hQ6 => ?_)
  obtain ⟨o36, kd36, rfl, Nq6, szo36, Kq6, q6_0⟩ := hQ6
  have N6 := Fr.app N0 Nq6
  have n7 : b1 ≠ o36 := Nat.ne_of_lt (Nat.lt_of_lt_of_le A1.lt szo36)
  have f10 := A1.keep Kq6
  have f11 := f4.keep Kq6 nin0
  have f12 := f5.keep Kq6 nin0
  have Z6 := Nat.le_trans Z1 Kq6.1
  have sz_o36 : h0.size ≤ o36 := Nat.le_trans K1.1 szo36
  have K6 := K1.trans Kq6 all0
  refine ret1 ?_
  refine g_iconst C X6 d22_19 20 (v := 0) rfl ?_
  refine g_callI C X6 rfl (w_119 hw) (w_120 hw) (w_8 hw) (w_121 hw) d22_20 [(.ref o36), (.int 0)] [(.ref b1)] 1 (rm27 hw Z6 f10 f11 f12 gn_b1) pd_13 rfl 23 (fun u13 T13 L13 X13 hQ13 => ?_)
  obtain ⟨rfl, Nq13, Kq13, q13_0, q13_1, q13_2⟩ := hQ13
  have N13 := Fr.app N6 Nq13
  have f16 := q6_0.keep Kq13 (ninS (Ne.symm n7) nin0)
  have K13 := K6.trans Kq13 (allS (Or.inr sz_b1) all0)
  refine ret0 ?_
  exact g_retA C X13 K rfl rfl rfl d22_23 (by decide) (by decide) rfl ⟨b1, o36, kd36, rfl, N13, sz_b1, sz_o36, K13, q13_0, q13_1, q13_2, f16⟩
theorem d9_22 : decode jdk_42_method_92_code 22 = .ok (.iload_n 2, 1) := by decide +kernel
theorem d9_23 : decode jdk_42_method_92_code 23 = .ok (.iload_n 1, 1) := by decide +kernel
theorem d9_24 : decode jdk_42_method_92_code 24 = .ok (.isub, 1) := by decide +kernel
theorem d9_25 : decode jdk_42_method_92_code 25 = .ok (.istore 4, 2) := by decide +kernel
theorem d9_27 : decode jdk_42_method_92_code 27 = .ok (.aload_n 0, 1) := by decide +kernel
theorem d9_28 : decode jdk_42_method_92_code 28 = .ok (.invokevirtual 492, 3) := by decide +kernel
theorem d9_31 : decode jdk_42_method_92_code 31 = .ok (.ifCond .eq 16, 3) := by decide +kernel
theorem d9_34 : decode jdk_42_method_92_code 34 = .ok (.aload_n 0, 1) := by decide +kernel
theorem d9_35 : decode jdk_42_method_92_code 35 = .ok (.getfield 9, 3) := by decide +kernel
theorem d9_38 : decode jdk_42_method_92_code 38 = .ok (.iload_n 1, 1) := by decide +kernel
theorem d9_39 : decode jdk_42_method_92_code 39 = .ok (.iload 4, 2) := by decide +kernel
theorem d9_41 : decode jdk_42_method_92_code 41 = .ok (.invokestatic 685, 3) := by decide +kernel
theorem w_100 {Z : State} {a0 : Array Value} (hw : ∀ d ∈ tables_1, d.before a0 Z = true) : Jvm.Cond.before (Jvm.Cond.code ({ cls := "java/lang/StringLatin1", name := "newString", desc := "([BII)Ljava/lang/String;" } : Jvm.MethodName) jdk_43_method_47_code (3 : Nat) (Option.some (Jvm.ClassFile.FieldType.object "java/lang/String"))) a0 Z = true := hw _ (List.mem_of_getElem? (i := 100) rfl)
theorem w_98 {Z : State} {a0 : Array Value} (hw : ∀ d ∈ tables_1, d.before a0 Z = true) : Jvm.Cond.before (Jvm.Cond.methodLink "java/lang/String" (685 : Nat) ({ cls := "java/lang/StringLatin1", name := "newString", desc := "([BII)Ljava/lang/String;" } : Jvm.MethodName)) a0 Z = true := hw _ (List.mem_of_getElem? (i := 98) rfl)
theorem pd_14 : parseMethodDescriptor "([BII)Ljava/lang/String;" = some ⟨[(.array .byte), .int, .int], some (.object "java/lang/String")⟩ := by decide +kernel
theorem w_99 {Z : State} {a0 : Array Value} (hw : ∀ d ∈ tables_1, d.before a0 Z = true) : Jvm.Cond.before (Jvm.Cond.static ({ cls := "java/lang/StringLatin1", name := "newString", desc := "([BII)Ljava/lang/String;" } : Jvm.MethodName)) a0 Z = true := hw _ (List.mem_of_getElem? (i := 99) rfl)
theorem d9_44 : decode jdk_42_method_92_code 44 = .ok (.goto 13, 3) := by decide +kernel
theorem d9_57 : decode jdk_42_method_92_code 57 = .ok (.areturn, 1) := by decide +kernel
def Q9_2_0_1 (Z : State) (o1 : Addr) (o2 : Addr) (kd1 : ClassId) (c1 : Int32) (c2 : Int32) (cs1 : Int32) (wf1 : Value) (h0 : Heap) (n0 : Nat) (v : Option Value) (h : Heap) (L : List Loc) : Prop := ∃ (o3 : Addr) (o4 : Addr) (kd3 : ClassId), v = some (.ref o3) ∧ Fr n0 L ∧ h0.size ≤ o3 ∧ h0.size ≤ o4 ∧ Keep h0 h [] ∧ OEs Z h o3 ∧ OFv Z h o3 (.ref o4) ∧ OFc Z h o3 ∧ Arv Z h o4 kd3 .byte 1 [(.int c1)] (.int 0)
theorem rm9_2_0_1 {o1 o2 : Addr} {kd1 : ClassId} {c1 c2 cs1 : Int32} {wf1 : Value} (hw : OwnW a0 Z) (Z0 : n0 ≤ h0.size) (F0 : OEs Z h0 o1) (F1 : OFv Z h0 o1 (.ref o2)) (F2 : OFc Z h0 o1) (F3 : Arv Z h0 o2 kd1 .byte 2 [(.int c1), (.int c2)] (.int 0)) (F4 : OSc Z h0 cs1) (F5 : OSf Z h0 wf1) (hcs : ¬ cs1 = (0 : Int32)) (hwf : wf1.isRef = true) : OwnMF l Z y9 jdk_42_method_92_code 5 (some (.object "java/lang/String")) ws ⟨4, 2, 5, 64⟩ #[(.ref o1), (.int 0), (.int 1)] h0 (Q9_2_0_1 Z o1 o2 kd1 c1 c2 cs1 wf1 h0 n0) := by
  refine bo (plainFor_of_name pn_2) ?_
  intro p e s m below meth c T0 G C hnm hnamed X0 e0 K
  have N0 := Fr.nil n0
  refine Goes.to (congrArg T0.setTop (ef_9rii m o1 (0 : Int32) (1 : Int32))) ?_
  have K00 := Keep.refl h0 []
  refine g_aloadN C X0 d9_0 1 rfl rfl ?_
  refine g_callV0 C X0 (b_6 hw) F0 d9_1 [] [] 0 (rm7_2 hw Z0 F0 F1 F2 F3 F4 hcs) N0 pd_6 e0 4 (fun T1 _ X1 N1 e1 => ?_)
  refine g_istoreN C X1 d9_4 5 (w := 2) rfl (ls' := #[rv o1, iv 0, iv 1, iv 2, uu]) rfl ?_
  refine g_iloadN C X1 d9_5 6 rfl ?_
  refine g_iloadN C X1 d9_6 7 rfl ?_
  refine g_iloadN C X1 d9_7 8 rfl ?_
  refine g_callSn C X1 (b_7 hw) d9_8 [(.int 0), (.int 1), (.int 2)] [] 0 (rm10 hw Z0 F5 hwf (by decide) (by decide) (by decide)) N1 pd_7 e1 11 (fun T2 _ X2 N2 e2 => ?_)
  refine g_iloadN C X2 d9_11 12 rfl ?_
  refine g_if_ne C X2 d9_12 22 15 (fun hc12 => absurd hc12 (by decide)) (fun hc12 => ?_)
  refine g_iloadN C X2 d9_15 16 rfl ?_
  refine g_iloadN C X2 d9_16 17 rfl ?_
  refine g_icmp_ne C X2 d9_17 22 20 (fun hc17 => ?_) (fun hc17 => absurd hc17 (by decide))
  refine g_iloadN C X2 d9_22 23 rfl ?_
  refine g_iloadN C X2 d9_23 24 rfl ?_
  refine g_isub C X2 d9_24 25 ?_
  rw [show (1 : Int32) - 0 = 1 from by decide]
  refine g_istore C X2 d9_25 27 (w := 1) rfl (ls' := #[rv o1, iv 0, iv 1, iv 2, iv 1]) rfl ?_
  refine g_aloadN C X2 d9_27 28 rfl rfl ?_
  refine g_callV0 C X2 (b_2 hw) F0 d9_28 [] [] 0 (rm17 hw Z0 F2 F4 hcs) N2 pd_2 e2 31 (fun T3 _ X3 N3 e3 => ?_)
  refine g_if_eq C X3 d9_31 47 34 (fun hc31 => absurd hc31 (by decide)) (fun hc31 => ?_)
  refine g_aloadN C X3 d9_34 35 rfl rfl ?_
  refine g_getF C X3 (w_25 hw) Via.refl e3 F1 d9_35 38 (fun T4 X4 e4 => ?_)
  refine g_iloadN C X4 d9_38 39 rfl ?_
  refine g_iload C X4 d9_39 41 rfl ?_
  refine g_callS C X4 (w_98 hw) (w_99 hw) (w_86 hw) (w_100 hw) d9_41 [(.ref o2), (.int 0), (.int 1)] [] 0 (rm22_2_0_1 hw Z0 F3) pd_14 e4 44 (fun u5 T5 L5 X5 hQ5 => ?_)
  obtain ⟨o35, o45, kd35, rfl, Nq5, szo35, szo45, Kq5, q5_0, q5_1, q5_2, q5_3⟩ := hQ5
  have N5 := Fr.app N3 Nq5
  have sz_o35 : h0.size ≤ o35 := Nat.le_trans K00.1 szo35
  have sz_o45 : h0.size ≤ o45 := Nat.le_trans K00.1 szo45
  have K5 := K00.trans Kq5 all0
  refine ret1 ?_
  refine g_goto C X5 d9_44 57 ?_
  exact g_retA C X5 K rfl rfl rfl d9_57 (by decide) (by decide) rfl ⟨o35, o45, kd35, rfl, N5, sz_o35, sz_o45, K5, q5_0, q5_1, q5_2, q5_3⟩
theorem d6_47 : decode prog_35_method_2_code 47 = .ok (.iinc 2 (-1), 3) := by decide +kernel
theorem d6_50 : decode prog_35_method_2_code 50 = .ok (.goto (-21), 3) := by decide +kernel
def Q6_2_0_1 (Z : State) (o1 : Addr) (o2 : Addr) (kd1 : ClassId) (c1 : Int32) (c2 : Int32) (cs1 : Int32) (wf1 : Value) (h0 : Heap) (n0 : Nat) (v : Option Value) (h : Heap) (L : List Loc) : Prop := ∃ (o3 : Addr) (o4 : Addr) (kd3 : ClassId), v = some (.ref o3) ∧ Fr n0 L ∧ h0.size ≤ o3 ∧ h0.size ≤ o4 ∧ Keep h0 h [] ∧ OEs Z h o3 ∧ OFv Z h o3 (.ref o4) ∧ OFc Z h o3 ∧ Arv Z h o4 kd3 .byte 1 [(.int c1)] (.int 0)
theorem rm6_2_0_1 {o1 o2 : Addr} {kd1 : ClassId} {c1 c2 cs1 : Int32} {wf1 : Value} (hw : OwnW a0 Z) (Z0 : n0 ≤ h0.size) (F0 : OEs Z h0 o1) (F1 : OFv Z h0 o1 (.ref o2)) (F2 : OFc Z h0 o1) (F3 : Arv Z h0 o2 kd1 .byte 2 [(.int c1), (.int c2)] (.int 0)) (F4 : OSc Z h0 cs1) (F5 : OSf Z h0 wf1) (hcs : ¬ cs1 = (0 : Int32)) (hwf : wf1.isRef = true) (hs1 : fIs (own_ch c1) = (0 : Int32)) (hs2 : ¬ fIs (own_ch c2) = (0 : Int32)) : OwnMF l Z y6 prog_35_method_2_code 3 (some (.object "java/lang/String")) ws ⟨5, 2, 5, 80⟩ #[(.ref o1)] h0 (Q6_2_0_1 Z o1 o2 kd1 c1 c2 cs1 wf1 h0 n0) := by
  refine bo (plainFor_of_name pn_6) ?_
  intro p e s m below meth c T0 G C hnm hnamed X0 e0 K
  have N0 := Fr.nil n0
  refine Goes.to (congrArg T0.setTop (ef_6r m o1)) ?_
  have K00 := Keep.refl h0 []
  refine g_iconst C X0 d6_0 1 (v := 0) rfl ?_
  refine g_istoreN C X0 d6_1 2 (w := 0) rfl (ls' := #[rv o1, iv 0, uu]) rfl ?_
  refine g_aloadN C X0 d6_2 3 rfl rfl ?_
  refine g_callV0 C X0 (b_8 hw) F0 d6_3 [] [] 0 (rm7_2 hw Z0 F0 F1 F2 F3 F4 hcs) N0 pd_6 e0 6 (fun T1 _ X1 N1 e1 => ?_)
  refine g_istoreN C X1 d6_6 7 (w := 2) rfl (ls' := #[rv o1, iv 0, iv 2]) rfl ?_
  refine g_iloadN C X1 d6_7 8 rfl ?_
  refine g_iloadN C X1 d6_8 9 rfl ?_
  refine g_icmp_ge C X1 d6_9 29 12 (fun hc9 => absurd hc9 (by decide)) (fun hc9 => ?_)
  refine g_aloadN C X1 d6_12 13 rfl rfl ?_
  refine g_iloadN C X1 d6_13 14 rfl ?_
  refine g_callV0 C X1 (b_10 hw) F0 d6_14 [(.int 0)] [] 0 (rm16_2_0 hw Z0 F0 F1 F2 F3 F4 F5 hcs hwf) N1 pd_9 e1 17 (fun T2 _ X2 N2 e2 => ?_)
  refine g_callS0 C X2 (b_11 hw) d6_17 [(.int (own_ch c1))] [] 0 (rm21 hw Z0) N2 pd_10 e2 20 (fun T3 _ X3 N3 e3 => ?_)
  refine g_if_eq C X3 d6_20 29 23 (fun hc20 => ?_) (fun hc20 => absurd hs1 hc20)
  refine g_iloadN C X3 d6_29 30 rfl ?_
  refine g_iloadN C X3 d6_30 31 rfl ?_
  refine g_icmp_le C X3 d6_31 53 34 (fun hc31 => absurd hc31 (by decide)) (fun hc31 => ?_)
  refine g_aloadN C X3 d6_34 35 rfl rfl ?_
  refine g_iloadN C X3 d6_35 36 rfl ?_
  refine g_iconst C X3 d6_36 37 (v := 1) rfl ?_
  refine g_isub C X3 d6_37 38 ?_
  rw [show (2 : Int32) - 1 = 1 from by decide]
  refine g_callV0 C X3 (b_10 hw) F0 d6_38 [(.int 1)] [] 0 (rm16_2_1 hw Z0 F0 F1 F2 F3 F4 F5 hcs hwf) N3 pd_9 e3 41 (fun T4 _ X4 N4 e4 => ?_)
  refine g_callS0 C X4 (b_11 hw) d6_41 [(.int (own_ch c2))] [] 0 (rm21 hw Z0) N4 pd_10 e4 44 (fun T5 _ X5 N5 e5 => ?_)
  refine g_if_eq C X5 d6_44 53 47 (fun hc44 => absurd hc44 hs2) (fun hc44 => ?_)
  refine g_iinc C X5 d6_47 50 rfl (w := 1) rfl (ls' := #[rv o1, iv 0, iv 1]) rfl ?_
  refine g_goto C X5 d6_50 29 ?_
  refine g_iloadN C X5 d6_29 30 rfl ?_
  refine g_iloadN C X5 d6_30 31 rfl ?_
  refine g_icmp_le C X5 d6_31 53 34 (fun hc31 => absurd hc31 (by decide)) (fun hc31 => ?_)
  refine g_aloadN C X5 d6_34 35 rfl rfl ?_
  refine g_iloadN C X5 d6_35 36 rfl ?_
  refine g_iconst C X5 d6_36 37 (v := 1) rfl ?_
  refine g_isub C X5 d6_37 38 ?_
  rw [show (1 : Int32) - 1 = 0 from by decide]
  refine g_callV0 C X5 (b_10 hw) F0 d6_38 [(.int 0)] [] 0 (rm16_2_0 hw Z0 F0 F1 F2 F3 F4 F5 hcs hwf) N5 pd_9 e5 41 (fun T6 _ X6 N6 e6 => ?_)
  refine g_callS0 C X6 (b_11 hw) d6_41 [(.int (own_ch c1))] [] 0 (rm21 hw Z0) N6 pd_10 e6 44 (fun T7 _ X7 N7 e7 => ?_)
  refine g_if_eq C X7 d6_44 53 47 (fun hc44 => ?_) (fun hc44 => absurd hc20 hc44)
  refine g_aloadN C X7 d6_53 54 rfl rfl ?_
  refine g_iloadN C X7 d6_54 55 rfl ?_
  refine g_iloadN C X7 d6_55 56 rfl ?_
  refine g_callV C X7 (w_46 hw) (w_47 hw) (notFace_of_selects (args := #[]) (mvT C.2.1 (w_49 hw))) (w_49 hw) (w_48 hw) (w_50 hw) (w_8 hw) F0 d6_56 [(.int 0), (.int 1)] [] 0 (rm9_2_0_1 hw Z0 F0 F1 F2 F3 F4 F5 hcs hwf) pd_8 e7 59 (fun u8 T8 L8 X8 hQ8 => ?_)
  obtain ⟨o38, o48, kd38, rfl, Nq8, szo38, szo48, Kq8, q8_0, q8_1, q8_2, q8_3⟩ := hQ8
  have N8 := Fr.app N7 Nq8
  have sz_o38 : h0.size ≤ o38 := Nat.le_trans K00.1 szo38
  have sz_o48 : h0.size ≤ o48 := Nat.le_trans K00.1 szo48
  have K8 := K00.trans Kq8 all0
  refine ret1 ?_
  exact g_retA C X8 K rfl rfl rfl d6_59 (by decide) (by decide) rfl ⟨o38, o48, kd38, rfl, N8, sz_o38, sz_o48, K8, q8_0, q8_1, q8_2, q8_3⟩
theorem rm9_2_0_2 {o1 o2 : Addr} {kd1 : ClassId} {c1 c2 cs1 : Int32} {wf1 : Value} (hw : OwnW a0 Z) (Z0 : n0 ≤ h0.size) (F0 : OEs Z h0 o1) (F1 : OFv Z h0 o1 (.ref o2)) (F2 : OFc Z h0 o1) (F3 : Arv Z h0 o2 kd1 .byte 2 [(.int c1), (.int c2)] (.int 0)) (F4 : OSc Z h0 cs1) (F5 : OSf Z h0 wf1) (hcs : ¬ cs1 = (0 : Int32)) (hwf : wf1.isRef = true) : OwnMF l Z y9 jdk_42_method_92_code 5 (some (.object "java/lang/String")) ws ⟨2, 0, 0, 29⟩ #[(.ref o1), (.int 0), (.int 2)] h0 (OwnQ (some (.ref o1)) h0 n0) := by
  refine bo (plainFor_of_name pn_2) ?_
  intro p e s m below meth c T0 G C hnm hnamed X0 e0 K
  have N0 := Fr.nil n0
  refine Goes.to (congrArg T0.setTop (ef_9rii m o1 (0 : Int32) (2 : Int32))) ?_
  refine g_aloadN C X0 d9_0 1 rfl rfl ?_
  refine g_callV0 C X0 (b_6 hw) F0 d9_1 [] [] 0 (rm7_2 hw Z0 F0 F1 F2 F3 F4 hcs) N0 pd_6 e0 4 (fun T1 _ X1 N1 e1 => ?_)
  refine g_istoreN C X1 d9_4 5 (w := 2) rfl (ls' := #[rv o1, iv 0, iv 2, iv 2, uu]) rfl ?_
  refine g_iloadN C X1 d9_5 6 rfl ?_
  refine g_iloadN C X1 d9_6 7 rfl ?_
  refine g_iloadN C X1 d9_7 8 rfl ?_
  refine g_callSn C X1 (b_7 hw) d9_8 [(.int 0), (.int 2), (.int 2)] [] 0 (rm10 hw Z0 F5 hwf (by decide) (by decide) (by decide)) N1 pd_7 e1 11 (fun T2 _ X2 N2 e2 => ?_)
  refine g_iloadN C X2 d9_11 12 rfl ?_
  refine g_if_ne C X2 d9_12 22 15 (fun hc12 => absurd hc12 (by decide)) (fun hc12 => ?_)
  refine g_iloadN C X2 d9_15 16 rfl ?_
  refine g_iloadN C X2 d9_16 17 rfl ?_
  refine g_icmp_ne C X2 d9_17 22 20 (fun hc17 => absurd hc17 (by decide)) (fun hc17 => ?_)
  refine g_aloadN C X2 d9_20 21 rfl rfl ?_
  exact g_retA C X2 K rfl rfl rfl d9_21 (by decide) (by decide) e2 ⟨rfl, N2, rfl⟩
theorem rm6_2_0_2 {o1 o2 : Addr} {kd1 : ClassId} {c1 c2 cs1 : Int32} {wf1 : Value} (hw : OwnW a0 Z) (Z0 : n0 ≤ h0.size) (F0 : OEs Z h0 o1) (F1 : OFv Z h0 o1 (.ref o2)) (F2 : OFc Z h0 o1) (F3 : Arv Z h0 o2 kd1 .byte 2 [(.int c1), (.int c2)] (.int 0)) (F4 : OSc Z h0 cs1) (F5 : OSf Z h0 wf1) (hcs : ¬ cs1 = (0 : Int32)) (hwf : wf1.isRef = true) (hs1 : fIs (own_ch c1) = (0 : Int32)) (hs2 : fIs (own_ch c2) = (0 : Int32)) : OwnMF l Z y6 prog_35_method_2_code 3 (some (.object "java/lang/String")) ws ⟨4, 0, 0, 53⟩ #[(.ref o1)] h0 (OwnQ (some (.ref o1)) h0 n0) := by
  refine bo (plainFor_of_name pn_6) ?_
  intro p e s m below meth c T0 G C hnm hnamed X0 e0 K
  have N0 := Fr.nil n0
  refine Goes.to (congrArg T0.setTop (ef_6r m o1)) ?_
  refine g_iconst C X0 d6_0 1 (v := 0) rfl ?_
  refine g_istoreN C X0 d6_1 2 (w := 0) rfl (ls' := #[rv o1, iv 0, uu]) rfl ?_
  refine g_aloadN C X0 d6_2 3 rfl rfl ?_
  refine g_callV0 C X0 (b_8 hw) F0 d6_3 [] [] 0 (rm7_2 hw Z0 F0 F1 F2 F3 F4 hcs) N0 pd_6 e0 6 (fun T1 _ X1 N1 e1 => ?_)
  refine g_istoreN C X1 d6_6 7 (w := 2) rfl (ls' := #[rv o1, iv 0, iv 2]) rfl ?_
  refine g_iloadN C X1 d6_7 8 rfl ?_
  refine g_iloadN C X1 d6_8 9 rfl ?_
  refine g_icmp_ge C X1 d6_9 29 12 (fun hc9 => absurd hc9 (by decide)) (fun hc9 => ?_)
  refine g_aloadN C X1 d6_12 13 rfl rfl ?_
  refine g_iloadN C X1 d6_13 14 rfl ?_
  refine g_callV0 C X1 (b_10 hw) F0 d6_14 [(.int 0)] [] 0 (rm16_2_0 hw Z0 F0 F1 F2 F3 F4 F5 hcs hwf) N1 pd_9 e1 17 (fun T2 _ X2 N2 e2 => ?_)
  refine g_callS0 C X2 (b_11 hw) d6_17 [(.int (own_ch c1))] [] 0 (rm21 hw Z0) N2 pd_10 e2 20 (fun T3 _ X3 N3 e3 => ?_)
  refine g_if_eq C X3 d6_20 29 23 (fun hc20 => ?_) (fun hc20 => absurd hs1 hc20)
  refine g_iloadN C X3 d6_29 30 rfl ?_
  refine g_iloadN C X3 d6_30 31 rfl ?_
  refine g_icmp_le C X3 d6_31 53 34 (fun hc31 => absurd hc31 (by decide)) (fun hc31 => ?_)
  refine g_aloadN C X3 d6_34 35 rfl rfl ?_
  refine g_iloadN C X3 d6_35 36 rfl ?_
  refine g_iconst C X3 d6_36 37 (v := 1) rfl ?_
  refine g_isub C X3 d6_37 38 ?_
  rw [show (2 : Int32) - 1 = 1 from by decide]
  refine g_callV0 C X3 (b_10 hw) F0 d6_38 [(.int 1)] [] 0 (rm16_2_1 hw Z0 F0 F1 F2 F3 F4 F5 hcs hwf) N3 pd_9 e3 41 (fun T4 _ X4 N4 e4 => ?_)
  refine g_callS0 C X4 (b_11 hw) d6_41 [(.int (own_ch c2))] [] 0 (rm21 hw Z0) N4 pd_10 e4 44 (fun T5 _ X5 N5 e5 => ?_)
  refine g_if_eq C X5 d6_44 53 47 (fun hc44 => ?_) (fun hc44 => absurd hs2 hc44)
  refine g_aloadN C X5 d6_53 54 rfl rfl ?_
  refine g_iloadN C X5 d6_54 55 rfl ?_
  refine g_iloadN C X5 d6_55 56 rfl ?_
  refine g_callV0 C X5 (b_9 hw) F0 d6_56 [(.int 0), (.int 2)] [] 0 (rm9_2_0_2 hw Z0 F0 F1 F2 F3 F4 F5 hcs hwf) N5 pd_8 e5 59 (fun T6 _ X6 N6 e6 => ?_)
  exact g_retA C X6 K rfl rfl rfl d6_59 (by decide) (by decide) e6 ⟨rfl, N6, rfl⟩
theorem rm25_1_2  (hw : OwnW a0 Z) (Z0 : n0 ≤ h0.size) : OwnMF l Z y25 jdk_65_method_131_code 2 none ws ⟨0, 0, 0, 0⟩ #[(.int 1), (.int 2)] h0 (OwnQ none h0 n0) := by
  refine bo (plainFor_of_name pn_23) ?_
  intro p e s m below meth c T0 G C hnm hnamed X0 e0 K
  have N0 := Fr.nil n0
  refine Goes.to (congrArg T0.setTop (ef_25ii m (1 : Int32) (2 : Int32))) ?_
  refine g_iloadN C X0 d25_0 1 rfl ?_
  refine g_iloadN C X0 d25_1 2 rfl ?_
  refine g_icmp_ge C X0 d25_2 37 5 (fun hc2 => ?_) (fun hc2 => absurd hc2 (by decide))
  exact g_retV C X0 K d25_37 (by decide) (by decide) e0 ⟨rfl, N0, rfl⟩
def Q24_2_1_2 (Z : State) (o1 : Addr) (kd1 : ClassId) (c1 : Int32) (c2 : Int32) (h0 : Heap) (n0 : Nat) (v : Option Value) (h : Heap) (L : List Loc) : Prop := ∃ (o3 : Addr) (kd3 : ClassId), v = some (.ref o3) ∧ Fr n0 L ∧ h0.size ≤ o3 ∧ Keep h0 h [] ∧ Arv Z h o3 kd3 .byte 1 [(.int c2)] (.int 0)
theorem rm24_2_1_2 {o1 : Addr} {kd1 : ClassId} {c1 c2 : Int32} (hw : OwnW a0 Z) (Z0 : n0 ≤ h0.size) (F0 : Arv Z h0 o1 kd1 .byte 2 [(.int c1), (.int c2)] (.int 0)) : OwnMF l Z y24 jdk_65_method_133_code 5 (some (.array .byte)) ws ⟨1, 1, 1, 18⟩ #[(.ref o1), (.int 1), (.int 2)] h0 (Q24_2_1_2 Z o1 kd1 c1 c2 h0 n0) := by
  refine bo (plainFor_of_name pn_23) ?_
  intro p e s m below meth c T0 G C hnm hnamed X0 e0 K
  have N0 := Fr.nil n0
  refine Goes.to (congrArg T0.setTop (ef_24rii m o1 (1 : Int32) (2 : Int32))) ?_
  have K00 := Keep.refl h0 []
  refine g_iloadN C X0 d24_0 1 rfl ?_
  refine g_iloadN C X0 d24_1 2 rfl ?_
  refine g_callSn C X0 (b_12 hw) d24_2 [(.int 1), (.int 2)] [] 0 (rm25_1_2 hw Z0 ) N0 pd_1 e0 5 (fun T1 _ X1 N1 e1 => ?_)
  refine g_iloadN C X1 d24_5 6 rfl ?_
  refine g_iloadN C X1 d24_6 7 rfl ?_
  refine g_isub C X1 d24_7 8 ?_
  rw [show (2 : Int32) - 1 = 1 from by decide]
  refine g_istoreN C X1 d24_8 9 (w := 1) rfl (ls' := #[rv o1, iv 1, iv 2, iv 1, uu]) rfl ?_
  refine g_iloadN C X1 d24_9 10 rfl ?_
  refine g_newA (aty := .byte) (n := (1 : Int32)) C X1 (cap := 1) (w_20 hw) e1 d24_10 12 (by decide) (by decide) (by decide) (by decide) (by decide) (fun T2 h2 b2 ki2 X2 e2 g2 E2 A2 => ?_)
  have f4 := F0.ext E2
  have gn_b2 : n0 ≤ b2 := Nat.le_trans Z0 (Nat.le_of_eq g2.symm)
  have Z2 := Nat.le_trans Z0 E2.1
  have sz_b2 : h0.size ≤ b2 := Nat.le_trans K00.1 (Nat.le_of_eq g2.symm)
  have K2 := K00.ext E2
  have f5 : Arv Z h2 b2 ki2 .byte 1 [(.int 0)] (.int 0) := A2.pad (pad_rep [] (.int 0) 1)
  refine g_astore C X2 d24_12 14 rfl (ls' := #[rv o1, iv 1, iv 2, iv 1, rv b2]) rfl ?_
  refine g_aloadN C X2 d24_14 15 rfl rfl ?_
  refine g_iloadN C X2 d24_15 16 rfl ?_
  refine g_aload C X2 d24_16 18 rfl rfl ?_
  refine g_iconst C X2 d24_18 19 (v := 0) rfl ?_
  refine g_aloadN C X2 d24_19 20 rfl rfl ?_
  refine g_arraylength C X2 e2 f4 d24_20 21 ?_
  refine g_iloadN C X2 d24_21 22 rfl ?_
  refine g_isub C X2 d24_22 23 ?_
  rw [show (2 : Int32) - 1 = 1 from by decide]
  refine g_iloadN C X2 d24_23 24 rfl ?_
  refine g_callS0 C X2 (b_13 hw) d24_24 [(.int 1), (.int 1)] [(.int 0), (.ref b2), (.int 1), (.ref o1)] 4 (rm26 hw Z2) N1 pd_11 e2 27 (fun T6 _ X6 N6 e6 => ?_)
  rw [show fMin (1 : Int32) (1 : Int32) = (1 : Int32) from by decide]
  refine g_acopy C X6 (us := [(.int c2)]) (ur := [(.int c2)]) (w_115 hw) (w_118 hw) (w_116 hw) (w_117 hw) e6 f4 f5 rfl (by decide) (by decide) (by decide) (by decide) (by decide) rfl (by simp; try decide) rfl N6 gn_b2 rfl d24_27 30 (by decide) (W := 0) (Nat.le_of_eq rfl) (by decide) (fun T7 h7 L7 X7 e7 N7 Kq7 V7 => ?_)
  have K7 := K2.trans Kq7 (allS (Or.inr sz_b2) all0)
  refine g_aload C X7 d24_30 32 rfl rfl ?_
  exact g_retA C X7 K rfl rfl rfl d24_32 (by decide) (by decide) e7 ⟨b2, ki2, rfl, N7, sz_b2, K7, V7⟩
def Q23_2_1_2 (Z : State) (o1 : Addr) (kd1 : ClassId) (c1 : Int32) (c2 : Int32) (h0 : Heap) (n0 : Nat) (v : Option Value) (h : Heap) (L : List Loc) : Prop := ∃ (o3 : Addr) (kd3 : ClassId), v = some (.ref o3) ∧ Fr n0 L ∧ h0.size ≤ o3 ∧ Keep h0 h [] ∧ Arv Z h o3 kd3 .byte 1 [(.int c2)] (.int 0)
theorem rm23_2_1_2 {o1 : Addr} {kd1 : ClassId} {c1 c2 : Int32} (hw : OwnW a0 Z) (Z0 : n0 ≤ h0.size) (F0 : Arv Z h0 o1 kd1 .byte 2 [(.int c1), (.int c2)] (.int 0)) : OwnMF l Z y23 jdk_65_method_132_code 3 (some (.array .byte)) ws ⟨2, 1, 1, 34⟩ #[(.ref o1), (.int 1), (.int 2)] h0 (Q23_2_1_2 Z o1 kd1 c1 c2 h0 n0) := by
  refine bo (plainFor_of_name pn_23) ?_
  intro p e s m below meth c T0 G C hnm hnamed X0 e0 K
  have N0 := Fr.nil n0
  refine Goes.to (congrArg T0.setTop (ef_23rii m o1 (1 : Int32) (2 : Int32))) ?_
  have K00 := Keep.refl h0 []
  refine g_iloadN C X0 d23_0 1 rfl ?_
  refine g_if_ne C X0 d23_1 10 4 (fun hc1 => ?_) (fun hc1 => absurd hc1 (by decide))
  refine g_aloadN C X0 d23_10 11 rfl rfl ?_
  refine g_iloadN C X0 d23_11 12 rfl ?_
  refine g_iloadN C X0 d23_12 13 rfl ?_
  refine g_callS C X0 (w_106 hw) (w_107 hw) (w_104 hw) (w_108 hw) d23_13 [(.ref o1), (.int 1), (.int 2)] [] 0 (rm24_2_1_2 hw Z0 F0) pd_12 e0 16 (fun u1 T1 L1 X1 hQ1 => ?_)
  obtain ⟨o31, kd31, rfl, Nq1, szo31, Kq1, q1_0⟩ := hQ1
  have N1 := Fr.app N0 Nq1
  have sz_o31 : h0.size ≤ o31 := Nat.le_trans K00.1 szo31
  have K1 := K00.trans Kq1 all0
  refine ret1 ?_
  exact g_retA C X1 K rfl rfl rfl d23_16 (by decide) (by decide) rfl ⟨o31, kd31, rfl, N1, sz_o31, K1, q1_0⟩
def Q22_2_1_1 (Z : State) (o1 : Addr) (kd1 : ClassId) (c1 : Int32) (c2 : Int32) (h0 : Heap) (n0 : Nat) (v : Option Value) (h : Heap) (L : List Loc) : Prop := ∃ (o3 : Addr) (o4 : Addr) (kd3 : ClassId), v = some (.ref o3) ∧ Fr n0 L ∧ h0.size ≤ o3 ∧ h0.size ≤ o4 ∧ Keep h0 h [] ∧ OEs Z h o3 ∧ OFv Z h o3 (.ref o4) ∧ OFc Z h o3 ∧ Arv Z h o4 kd3 .byte 1 [(.int c2)] (.int 0)
theorem rm22_2_1_1 {o1 : Addr} {kd1 : ClassId} {c1 c2 : Int32} (hw : OwnW a0 Z) (Z0 : n0 ≤ h0.size) (F0 : Arv Z h0 o1 kd1 .byte 2 [(.int c1), (.int c2)] (.int 0)) : OwnMF l Z y22 jdk_43_method_47_code 3 (some (.object "java/lang/String")) ws ⟨3, 2, 5, 50⟩ #[(.ref o1), (.int 1), (.int 1)] h0 (Q22_2_1_1 Z o1 kd1 c1 c2 h0 n0) := by
  refine bo (plainFor_of_name pn_18) ?_
  intro p e s m below meth c T0 G C hnm hnamed X0 e0 K
  have N0 := Fr.nil n0
  refine Goes.to (congrArg T0.setTop (ef_22rii m o1 (1 : Int32) (1 : Int32))) ?_
  have K00 := Keep.refl h0 []
  refine g_iloadN C X0 d22_0 1 rfl ?_
  refine g_if_ne C X0 d22_1 7 4 (fun hc1 => ?_) (fun hc1 => absurd hc1 (by decide))
  refine g_new C X0 (w_101 hw) (w_7 hw) (w_8 hw) e0 d22_7 10 (by decide) (by decide) (fun T1 h1 b1 X1 e1 g1 E1 A1 D1 => ?_)
  have f3 := F0.ext E1
  have gn_b1 : n0 ≤ b1 := Nat.le_trans Z0 (Nat.le_of_eq g1.symm)
  have Z1 := Nat.le_trans Z0 E1.1
  have sz_b1 : h0.size ≤ b1 := Nat.le_trans K00.1 (Nat.le_of_eq g1.symm)
  have K1 := K00.ext E1
  have f4 : OFv Z h1 b1 .null := D1 (Or.inr (w_21 hw)) (ty := (.array .byte)) (by decide)
  have f5 : OFc Z h1 b1 := D1 (Or.inr (w_22 hw)) (ty := .byte) (by decide)
  refine g_dup C X1 d22_10 11 rfl ?_
  refine g_aloadN C X1 d22_11 12 rfl rfl ?_
  refine g_iloadN C X1 d22_12 13 rfl ?_
  refine g_iloadN C X1 d22_13 14 rfl ?_
  refine g_iloadN C X1 d22_14 15 rfl ?_
  refine g_iadd C X1 d22_15 16 ?_
  rw [show (1 : Int32) + 1 = 2 from by decide]
  refine g_callS C X1 (w_102 hw) (w_103 hw) (w_104 hw) (w_105 hw) d22_16 [(.ref o1), (.int 1), (.int 2)] [(.ref b1), (.ref b1)] 2 (rm23_2_1_2 hw Z1 f3) pd_12 e1 19 (fun u6 T6 L6 X6 hQ6 => ?_)
  obtain ⟨o36, kd36, rfl, Nq6, szo36, Kq6, q6_0⟩ := hQ6
  have N6 := Fr.app N0 Nq6
  have n7 : b1 ≠ o36 := Nat.ne_of_lt (Nat.lt_of_lt_of_le A1.lt szo36)
  have f10 := A1.keep Kq6
  have f11 := f4.keep Kq6 nin0
  have f12 := f5.keep Kq6 nin0
  have Z6 := Nat.le_trans Z1 Kq6.1
  have sz_o36 : h0.size ≤ o36 := Nat.le_trans K1.1 szo36
  have K6 := K1.trans Kq6 all0
  refine ret1 ?_
  refine g_iconst C X6 d22_19 20 (v := 0) rfl ?_
  refine g_callI C X6 rfl (w_119 hw) (w_120 hw) (w_8 hw) (w_121 hw) d22_20 [(.ref o36), (.int 0)] [(.ref b1)] 1 (rm27 hw Z6 f10 f11 f12 gn_b1) pd_13 rfl 23 (fun u13 T13 L13 X13 hQ13 => ?_)
  obtain ⟨rfl, Nq13, Kq13, q13_0, q13_1, q13_2⟩ := hQ13
  have N13 := Fr.app N6 Nq13
  have f16 := q6_0.keep Kq13 (ninS (Ne.symm n7) nin0)
  have K13 := K6.trans Kq13 (allS (Or.inr sz_b1) all0)
  refine ret0 ?_
  exact g_retA C X13 K rfl rfl rfl d22_23 (by decide) (by decide) rfl ⟨b1, o36, kd36, rfl, N13, sz_b1, sz_o36, K13, q13_0, q13_1, q13_2, f16⟩
def Q9_2_1_2 (Z : State) (o1 : Addr) (o2 : Addr) (kd1 : ClassId) (c1 : Int32) (c2 : Int32) (cs1 : Int32) (wf1 : Value) (h0 : Heap) (n0 : Nat) (v : Option Value) (h : Heap) (L : List Loc) : Prop := ∃ (o3 : Addr) (o4 : Addr) (kd3 : ClassId), v = some (.ref o3) ∧ Fr n0 L ∧ h0.size ≤ o3 ∧ h0.size ≤ o4 ∧ Keep h0 h [] ∧ OEs Z h o3 ∧ OFv Z h o3 (.ref o4) ∧ OFc Z h o3 ∧ Arv Z h o4 kd3 .byte 1 [(.int c2)] (.int 0)
theorem rm9_2_1_2 {o1 o2 : Addr} {kd1 : ClassId} {c1 c2 cs1 : Int32} {wf1 : Value} (hw : OwnW a0 Z) (Z0 : n0 ≤ h0.size) (F0 : OEs Z h0 o1) (F1 : OFv Z h0 o1 (.ref o2)) (F2 : OFc Z h0 o1) (F3 : Arv Z h0 o2 kd1 .byte 2 [(.int c1), (.int c2)] (.int 0)) (F4 : OSc Z h0 cs1) (F5 : OSf Z h0 wf1) (hcs : ¬ cs1 = (0 : Int32)) (hwf : wf1.isRef = true) : OwnMF l Z y9 jdk_42_method_92_code 5 (some (.object "java/lang/String")) ws ⟨4, 2, 5, 64⟩ #[(.ref o1), (.int 1), (.int 2)] h0 (Q9_2_1_2 Z o1 o2 kd1 c1 c2 cs1 wf1 h0 n0) := by
  refine bo (plainFor_of_name pn_2) ?_
  intro p e s m below meth c T0 G C hnm hnamed X0 e0 K
  have N0 := Fr.nil n0
  refine Goes.to (congrArg T0.setTop (ef_9rii m o1 (1 : Int32) (2 : Int32))) ?_
  have K00 := Keep.refl h0 []
  refine g_aloadN C X0 d9_0 1 rfl rfl ?_
  refine g_callV0 C X0 (b_6 hw) F0 d9_1 [] [] 0 (rm7_2 hw Z0 F0 F1 F2 F3 F4 hcs) N0 pd_6 e0 4 (fun T1 _ X1 N1 e1 => ?_)
  refine g_istoreN C X1 d9_4 5 (w := 2) rfl (ls' := #[rv o1, iv 1, iv 2, iv 2, uu]) rfl ?_
  refine g_iloadN C X1 d9_5 6 rfl ?_
  refine g_iloadN C X1 d9_6 7 rfl ?_
  refine g_iloadN C X1 d9_7 8 rfl ?_
  refine g_callSn C X1 (b_7 hw) d9_8 [(.int 1), (.int 2), (.int 2)] [] 0 (rm10 hw Z0 F5 hwf (by decide) (by decide) (by decide)) N1 pd_7 e1 11 (fun T2 _ X2 N2 e2 => ?_)
  refine g_iloadN C X2 d9_11 12 rfl ?_
  refine g_if_ne C X2 d9_12 22 15 (fun hc12 => ?_) (fun hc12 => absurd hc12 (by decide))
  refine g_iloadN C X2 d9_22 23 rfl ?_
  refine g_iloadN C X2 d9_23 24 rfl ?_
  refine g_isub C X2 d9_24 25 ?_
  rw [show (2 : Int32) - 1 = 1 from by decide]
  refine g_istore C X2 d9_25 27 (w := 1) rfl (ls' := #[rv o1, iv 1, iv 2, iv 2, iv 1]) rfl ?_
  refine g_aloadN C X2 d9_27 28 rfl rfl ?_
  refine g_callV0 C X2 (b_2 hw) F0 d9_28 [] [] 0 (rm17 hw Z0 F2 F4 hcs) N2 pd_2 e2 31 (fun T3 _ X3 N3 e3 => ?_)
  refine g_if_eq C X3 d9_31 47 34 (fun hc31 => absurd hc31 (by decide)) (fun hc31 => ?_)
  refine g_aloadN C X3 d9_34 35 rfl rfl ?_
  refine g_getF C X3 (w_25 hw) Via.refl e3 F1 d9_35 38 (fun T4 X4 e4 => ?_)
  refine g_iloadN C X4 d9_38 39 rfl ?_
  refine g_iload C X4 d9_39 41 rfl ?_
  refine g_callS C X4 (w_98 hw) (w_99 hw) (w_86 hw) (w_100 hw) d9_41 [(.ref o2), (.int 1), (.int 1)] [] 0 (rm22_2_1_1 hw Z0 F3) pd_14 e4 44 (fun u5 T5 L5 X5 hQ5 => ?_)
  obtain ⟨o35, o45, kd35, rfl, Nq5, szo35, szo45, Kq5, q5_0, q5_1, q5_2, q5_3⟩ := hQ5
  have N5 := Fr.app N3 Nq5
  have sz_o35 : h0.size ≤ o35 := Nat.le_trans K00.1 szo35
  have sz_o45 : h0.size ≤ o45 := Nat.le_trans K00.1 szo45
  have K5 := K00.trans Kq5 all0
  refine ret1 ?_
  refine g_goto C X5 d9_44 57 ?_
  exact g_retA C X5 K rfl rfl rfl d9_57 (by decide) (by decide) rfl ⟨o35, o45, kd35, rfl, N5, sz_o35, sz_o45, K5, q5_0, q5_1, q5_2, q5_3⟩
theorem d6_23 : decode prog_35_method_2_code 23 = .ok (.iinc 1 1, 3) := by decide +kernel
theorem d6_26 : decode prog_35_method_2_code 26 = .ok (.goto (-19), 3) := by decide +kernel
def Q6_2_1_2 (Z : State) (o1 : Addr) (o2 : Addr) (kd1 : ClassId) (c1 : Int32) (c2 : Int32) (cs1 : Int32) (wf1 : Value) (h0 : Heap) (n0 : Nat) (v : Option Value) (h : Heap) (L : List Loc) : Prop := ∃ (o3 : Addr) (o4 : Addr) (kd3 : ClassId), v = some (.ref o3) ∧ Fr n0 L ∧ h0.size ≤ o3 ∧ h0.size ≤ o4 ∧ Keep h0 h [] ∧ OEs Z h o3 ∧ OFv Z h o3 (.ref o4) ∧ OFc Z h o3 ∧ Arv Z h o4 kd3 .byte 1 [(.int c2)] (.int 0)
theorem rm6_2_1_2 {o1 o2 : Addr} {kd1 : ClassId} {c1 c2 cs1 : Int32} {wf1 : Value} (hw : OwnW a0 Z) (Z0 : n0 ≤ h0.size) (F0 : OEs Z h0 o1) (F1 : OFv Z h0 o1 (.ref o2)) (F2 : OFc Z h0 o1) (F3 : Arv Z h0 o2 kd1 .byte 2 [(.int c1), (.int c2)] (.int 0)) (F4 : OSc Z h0 cs1) (F5 : OSf Z h0 wf1) (hcs : ¬ cs1 = (0 : Int32)) (hwf : wf1.isRef = true) (hs1 : ¬ fIs (own_ch c1) = (0 : Int32)) (hs2 : fIs (own_ch c2) = (0 : Int32)) : OwnMF l Z y6 prog_35_method_2_code 3 (some (.object "java/lang/String")) ws ⟨5, 2, 5, 80⟩ #[(.ref o1)] h0 (Q6_2_1_2 Z o1 o2 kd1 c1 c2 cs1 wf1 h0 n0) := by
  refine bo (plainFor_of_name pn_6) ?_
  intro p e s m below meth c T0 G C hnm hnamed X0 e0 K
  have N0 := Fr.nil n0
  refine Goes.to (congrArg T0.setTop (ef_6r m o1)) ?_
  have K00 := Keep.refl h0 []
  refine g_iconst C X0 d6_0 1 (v := 0) rfl ?_
  refine g_istoreN C X0 d6_1 2 (w := 0) rfl (ls' := #[rv o1, iv 0, uu]) rfl ?_
  refine g_aloadN C X0 d6_2 3 rfl rfl ?_
  refine g_callV0 C X0 (b_8 hw) F0 d6_3 [] [] 0 (rm7_2 hw Z0 F0 F1 F2 F3 F4 hcs) N0 pd_6 e0 6 (fun T1 _ X1 N1 e1 => ?_)
  refine g_istoreN C X1 d6_6 7 (w := 2) rfl (ls' := #[rv o1, iv 0, iv 2]) rfl ?_
  refine g_iloadN C X1 d6_7 8 rfl ?_
  refine g_iloadN C X1 d6_8 9 rfl ?_
  refine g_icmp_ge C X1 d6_9 29 12 (fun hc9 => absurd hc9 (by decide)) (fun hc9 => ?_)
  refine g_aloadN C X1 d6_12 13 rfl rfl ?_
  refine g_iloadN C X1 d6_13 14 rfl ?_
  refine g_callV0 C X1 (b_10 hw) F0 d6_14 [(.int 0)] [] 0 (rm16_2_0 hw Z0 F0 F1 F2 F3 F4 F5 hcs hwf) N1 pd_9 e1 17 (fun T2 _ X2 N2 e2 => ?_)
  refine g_callS0 C X2 (b_11 hw) d6_17 [(.int (own_ch c1))] [] 0 (rm21 hw Z0) N2 pd_10 e2 20 (fun T3 _ X3 N3 e3 => ?_)
  refine g_if_eq C X3 d6_20 29 23 (fun hc20 => absurd hc20 hs1) (fun hc20 => ?_)
  refine g_iinc C X3 d6_23 26 rfl (w := 1) rfl (ls' := #[rv o1, iv 1, iv 2]) rfl ?_
  refine g_goto C X3 d6_26 7 ?_
  refine g_iloadN C X3 d6_7 8 rfl ?_
  refine g_iloadN C X3 d6_8 9 rfl ?_
  refine g_icmp_ge C X3 d6_9 29 12 (fun hc9 => absurd hc9 (by decide)) (fun hc9 => ?_)
  refine g_aloadN C X3 d6_12 13 rfl rfl ?_
  refine g_iloadN C X3 d6_13 14 rfl ?_
  refine g_callV0 C X3 (b_10 hw) F0 d6_14 [(.int 1)] [] 0 (rm16_2_1 hw Z0 F0 F1 F2 F3 F4 F5 hcs hwf) N3 pd_9 e3 17 (fun T4 _ X4 N4 e4 => ?_)
  refine g_callS0 C X4 (b_11 hw) d6_17 [(.int (own_ch c2))] [] 0 (rm21 hw Z0) N4 pd_10 e4 20 (fun T5 _ X5 N5 e5 => ?_)
  refine g_if_eq C X5 d6_20 29 23 (fun hc20 => ?_) (fun hc20 => absurd hs2 hc20)
  refine g_iloadN C X5 d6_29 30 rfl ?_
  refine g_iloadN C X5 d6_30 31 rfl ?_
  refine g_icmp_le C X5 d6_31 53 34 (fun hc31 => absurd hc31 (by decide)) (fun hc31 => ?_)
  refine g_aloadN C X5 d6_34 35 rfl rfl ?_
  refine g_iloadN C X5 d6_35 36 rfl ?_
  refine g_iconst C X5 d6_36 37 (v := 1) rfl ?_
  refine g_isub C X5 d6_37 38 ?_
  rw [show (2 : Int32) - 1 = 1 from by decide]
  refine g_callV0 C X5 (b_10 hw) F0 d6_38 [(.int 1)] [] 0 (rm16_2_1 hw Z0 F0 F1 F2 F3 F4 F5 hcs hwf) N5 pd_9 e5 41 (fun T6 _ X6 N6 e6 => ?_)
  refine g_callS0 C X6 (b_11 hw) d6_41 [(.int (own_ch c2))] [] 0 (rm21 hw Z0) N6 pd_10 e6 44 (fun T7 _ X7 N7 e7 => ?_)
  refine g_if_eq C X7 d6_44 53 47 (fun hc44 => ?_) (fun hc44 => absurd hc20 hc44)
  refine g_aloadN C X7 d6_53 54 rfl rfl ?_
  refine g_iloadN C X7 d6_54 55 rfl ?_
  refine g_iloadN C X7 d6_55 56 rfl ?_
  refine g_callV C X7 (w_46 hw) (w_47 hw) (notFace_of_selects (args := #[]) (mvT C.2.1 (w_49 hw))) (w_49 hw) (w_48 hw) (w_50 hw) (w_8 hw) F0 d6_56 [(.int 1), (.int 2)] [] 0 (rm9_2_1_2 hw Z0 F0 F1 F2 F3 F4 F5 hcs hwf) pd_8 e7 59 (fun u8 T8 L8 X8 hQ8 => ?_)
  obtain ⟨o38, o48, kd38, rfl, Nq8, szo38, szo48, Kq8, q8_0, q8_1, q8_2, q8_3⟩ := hQ8
  have N8 := Fr.app N7 Nq8
  have sz_o38 : h0.size ≤ o38 := Nat.le_trans K00.1 szo38
  have sz_o48 : h0.size ≤ o48 := Nat.le_trans K00.1 szo48
  have K8 := K00.trans Kq8 all0
  refine ret1 ?_
  exact g_retA C X8 K rfl rfl rfl d6_59 (by decide) (by decide) rfl ⟨o38, o48, kd38, rfl, N8, sz_o38, sz_o48, K8, q8_0, q8_1, q8_2, q8_3⟩
theorem rm20_3_0n  (hw : OwnW a0 Z) (Z0 : n0 ≤ h0.size) : OwnMF l Z y20 jdk_41_method_11_code 3 (some .int) ws ⟨0, 0, 0, 0⟩ #[(.int 0), (.int 3), .null] h0 (OwnQ (some (.int 0)) h0 n0) := by
  refine bo (plainFor_of_name pn_11) ?_
  intro p e s m below meth c T0 G C hnm hnamed X0 e0 K
  have N0 := Fr.nil n0
  refine Goes.to (congrArg T0.setTop (ef_20iin m (0 : Int32) (3 : Int32))) ?_
  refine g_iloadN C X0 d20_0 1 rfl ?_
  refine g_if_lt C X0 d20_1 9 4 (fun hc1 => absurd hc1 (by decide)) (fun hc1 => ?_)
  refine g_iloadN C X0 d20_4 5 rfl ?_
  refine g_iloadN C X0 d20_5 6 rfl ?_
  refine g_icmp_lt C X0 d20_6 16 9 (fun hc6 => ?_) (fun hc6 => absurd hc6 (by decide))
  refine g_iloadN C X0 d20_16 17 rfl ?_
  exact g_retI C X0 K d20_17 (by decide) (by decide) e0 ⟨rfl, N0, rfl⟩
theorem rm20_3_0r {o1 : Addr} (hw : OwnW a0 Z) (Z0 : n0 ≤ h0.size) : OwnMF l Z y20 jdk_41_method_11_code 3 (some .int) ws ⟨0, 0, 0, 0⟩ #[(.int 0), (.int 3), (.ref o1)] h0 (OwnQ (some (.int 0)) h0 n0) := by
  refine bo (plainFor_of_name pn_11) ?_
  intro p e s m below meth c T0 G C hnm hnamed X0 e0 K
  have N0 := Fr.nil n0
  refine Goes.to (congrArg T0.setTop (ef_20iir m (0 : Int32) (3 : Int32) o1)) ?_
  refine g_iloadN C X0 d20_0 1 rfl ?_
  refine g_if_lt C X0 d20_1 9 4 (fun hc1 => absurd hc1 (by decide)) (fun hc1 => ?_)
  refine g_iloadN C X0 d20_4 5 rfl ?_
  refine g_iloadN C X0 d20_5 6 rfl ?_
  refine g_icmp_lt C X0 d20_6 16 9 (fun hc6 => ?_) (fun hc6 => absurd hc6 (by decide))
  refine g_iloadN C X0 d20_16 17 rfl ?_
  exact g_retI C X0 K d20_17 (by decide) (by decide) e0 ⟨rfl, N0, rfl⟩
theorem rm19_3_0 {wf1 : Value} (hw : OwnW a0 Z) (Z0 : n0 ≤ h0.size) (F0 : OSf Z h0 wf1) (hwf : wf1.isRef = true) : OwnMF l Z y19 jdk_42_method_155_code 2 none ws ⟨1, 0, 0, 14⟩ #[(.int 0), (.int 3)] h0 (OwnQ none h0 n0) := by
  refine bo (plainFor_of_name pn_2) ?_
  intro p e s m below meth c T0 G C hnm hnamed X0 e0 K
  have N0 := Fr.nil n0
  refine Goes.to (congrArg T0.setTop (ef_19ii m (0 : Int32) (3 : Int32))) ?_
  rcases ref_cases hwf with rfl | ⟨sa1, rfl⟩
  · refine g_iloadN C X0 d19_0 1 rfl ?_
    refine g_iloadN C X0 d19_1 2 rfl ?_
    refine g_getS C X0 (w_55 hw) Via.refl e0 F0 d19_2 5 (fun T2 X2 e2 => ?_)
    refine g_callS0 C X2 (b_0 hw) d19_5 [(.int 0), (.int 3), .null] [] 0 (rm20_3_0n hw Z0 ) N0 pd_0 e2 8 (fun T3 _ X3 N3 e3 => ?_)
    refine g_pop C X3 d19_8 9 rfl ?_
    exact g_retV C X3 K d19_9 (by decide) (by decide) e3 ⟨rfl, N3, rfl⟩
  · refine g_iloadN C X0 d19_0 1 rfl ?_
    refine g_iloadN C X0 d19_1 2 rfl ?_
    refine g_getS C X0 (w_55 hw) Via.refl e0 F0 d19_2 5 (fun T4 X4 e4 => ?_)
    refine g_callS0 C X4 (b_0 hw) d19_5 [(.int 0), (.int 3), (.ref sa1)] [] 0 (rm20_3_0r hw Z0 ) N0 pd_0 e4 8 (fun T5 _ X5 N5 e5 => ?_)
    refine g_pop C X5 d19_8 9 rfl ?_
    exact g_retV C X5 K d19_9 (by decide) (by decide) e5 ⟨rfl, N5, rfl⟩
theorem rm18_3_0 {o1 : Addr} {kd1 : ClassId} {c1 c2 c3 : Int32} {wf1 : Value} (hw : OwnW a0 Z) (Z0 : n0 ≤ h0.size) (F0 : Arv Z h0 o1 kd1 .byte 3 [(.int c1), (.int c2), (.int c3)] (.int 0)) (F1 : OSf Z h0 wf1) (hwf : wf1.isRef = true) : OwnMF l Z y18 jdk_43_method_2_code 2 (some .char) ws ⟨2, 0, 0, 27⟩ #[(.ref o1), (.int 0)] h0 (OwnQ (some (.int (own_ch c1))) h0 n0) := by
  refine bo (plainFor_of_name pn_18) ?_
  intro p e s m below meth c T0 G C hnm hnamed X0 e0 K
  have N0 := Fr.nil n0
  refine Goes.to (congrArg T0.setTop (ef_18ri m o1 (0 : Int32))) ?_
  refine g_iloadN C X0 d18_0 1 rfl ?_
  refine g_aloadN C X0 d18_1 2 rfl rfl ?_
  refine g_arraylength C X0 e0 F0 d18_2 3 ?_
  refine g_callSn C X0 (b_1 hw) d18_3 [(.int 0), (.int 3)] [] 0 (rm19_3_0 hw Z0 F1 hwf) N0 pd_1 e0 6 (fun T1 _ X1 N1 e1 => ?_)
  refine g_aloadN C X1 d18_6 7 rfl rfl ?_
  refine g_iloadN C X1 d18_7 8 rfl ?_
  refine g_baload C X1 e1 F0 (by decide) (v := (.int c1)) rfl d18_8 9 ?_
  refine g_sipush C X1 d18_9 12 (v := 255) rfl ?_
  refine g_iand C X1 d18_12 13 ?_
  refine g_i2c C X1 d18_13 14 ?_
  exact g_retN C X1 K (by simp) d18_14 (by decide) (by decide) e1 ⟨rfl, N1, rfl⟩
theorem rm16_3_0 {o1 o2 : Addr} {kd1 : ClassId} {c1 c2 c3 cs1 : Int32} {wf1 : Value} (hw : OwnW a0 Z) (Z0 : n0 ≤ h0.size) (F0 : OEs Z h0 o1) (F1 : OFv Z h0 o1 (.ref o2)) (F2 : OFc Z h0 o1) (F3 : Arv Z h0 o2 kd1 .byte 3 [(.int c1), (.int c2), (.int c3)] (.int 0)) (F4 : OSc Z h0 cs1) (F5 : OSf Z h0 wf1) (hcs : ¬ cs1 = (0 : Int32)) (hwf : wf1.isRef = true) : OwnMF l Z y16 jdk_42_method_56_code 2 (some .char) ws ⟨3, 0, 0, 40⟩ #[(.ref o1), (.int 0)] h0 (OwnQ (some (.int (own_ch c1))) h0 n0) := by
  refine bo (plainFor_of_name pn_2) ?_
  intro p e s m below meth c T0 G C hnm hnamed X0 e0 K
  have N0 := Fr.nil n0
  refine Goes.to (congrArg T0.setTop (ef_16ri m o1 (0 : Int32))) ?_
  refine g_aloadN C X0 d16_0 1 rfl rfl ?_
  refine g_callV0 C X0 (b_2 hw) F0 d16_1 [] [] 0 (rm17 hw Z0 F2 F4 hcs) N0 pd_2 e0 4 (fun T1 _ X1 N1 e1 => ?_)
  refine g_if_eq C X1 d16_4 16 7 (fun hc4 => absurd hc4 (by decide)) (fun hc4 => ?_)
  refine g_aloadN C X1 d16_7 8 rfl rfl ?_
  refine g_getF C X1 (w_25 hw) Via.refl e1 F1 d16_8 11 (fun T2 X2 e2 => ?_)
  refine g_iloadN C X2 d16_11 12 rfl ?_
  refine g_callS0 C X2 (b_3 hw) d16_12 [(.ref o2), (.int 0)] [] 0 (rm18_3_0 hw Z0 F3 F5 hwf) N1 pd_3 e2 15 (fun T3 _ X3 N3 e3 => ?_)
  exact g_retN C X3 K (by simp) d16_15 (by decide) (by decide) e3 ⟨(by rw [own_narr]), N3, rfl⟩
theorem rm20_3_1n  (hw : OwnW a0 Z) (Z0 : n0 ≤ h0.size) : OwnMF l Z y20 jdk_41_method_11_code 3 (some .int) ws ⟨0, 0, 0, 0⟩ #[(.int 1), (.int 3), .null] h0 (OwnQ (some (.int 1)) h0 n0) := by
  refine bo (plainFor_of_name pn_11) ?_
  intro p e s m below meth c T0 G C hnm hnamed X0 e0 K
  have N0 := Fr.nil n0
  refine Goes.to (congrArg T0.setTop (ef_20iin m (1 : Int32) (3 : Int32))) ?_
  refine g_iloadN C X0 d20_0 1 rfl ?_
  refine g_if_lt C X0 d20_1 9 4 (fun hc1 => absurd hc1 (by decide)) (fun hc1 => ?_)
  refine g_iloadN C X0 d20_4 5 rfl ?_
  refine g_iloadN C X0 d20_5 6 rfl ?_
  refine g_icmp_lt C X0 d20_6 16 9 (fun hc6 => ?_) (fun hc6 => absurd hc6 (by decide))
  refine g_iloadN C X0 d20_16 17 rfl ?_
  exact g_retI C X0 K d20_17 (by decide) (by decide) e0 ⟨rfl, N0, rfl⟩
theorem rm20_3_1r {o1 : Addr} (hw : OwnW a0 Z) (Z0 : n0 ≤ h0.size) : OwnMF l Z y20 jdk_41_method_11_code 3 (some .int) ws ⟨0, 0, 0, 0⟩ #[(.int 1), (.int 3), (.ref o1)] h0 (OwnQ (some (.int 1)) h0 n0) := by
  refine bo (plainFor_of_name pn_11) ?_
  intro p e s m below meth c T0 G C hnm hnamed X0 e0 K
  have N0 := Fr.nil n0
  refine Goes.to (congrArg T0.setTop (ef_20iir m (1 : Int32) (3 : Int32) o1)) ?_
  refine g_iloadN C X0 d20_0 1 rfl ?_
  refine g_if_lt C X0 d20_1 9 4 (fun hc1 => absurd hc1 (by decide)) (fun hc1 => ?_)
  refine g_iloadN C X0 d20_4 5 rfl ?_
  refine g_iloadN C X0 d20_5 6 rfl ?_
  refine g_icmp_lt C X0 d20_6 16 9 (fun hc6 => ?_) (fun hc6 => absurd hc6 (by decide))
  refine g_iloadN C X0 d20_16 17 rfl ?_
  exact g_retI C X0 K d20_17 (by decide) (by decide) e0 ⟨rfl, N0, rfl⟩
theorem rm19_3_1 {wf1 : Value} (hw : OwnW a0 Z) (Z0 : n0 ≤ h0.size) (F0 : OSf Z h0 wf1) (hwf : wf1.isRef = true) : OwnMF l Z y19 jdk_42_method_155_code 2 none ws ⟨1, 0, 0, 14⟩ #[(.int 1), (.int 3)] h0 (OwnQ none h0 n0) := by
  refine bo (plainFor_of_name pn_2) ?_
  intro p e s m below meth c T0 G C hnm hnamed X0 e0 K
  have N0 := Fr.nil n0
  refine Goes.to (congrArg T0.setTop (ef_19ii m (1 : Int32) (3 : Int32))) ?_
  rcases ref_cases hwf with rfl | ⟨sa1, rfl⟩
  · refine g_iloadN C X0 d19_0 1 rfl ?_
    refine g_iloadN C X0 d19_1 2 rfl ?_
    refine g_getS C X0 (w_55 hw) Via.refl e0 F0 d19_2 5 (fun T2 X2 e2 => ?_)
    refine g_callS0 C X2 (b_0 hw) d19_5 [(.int 1), (.int 3), .null] [] 0 (rm20_3_1n hw Z0 ) N0 pd_0 e2 8 (fun T3 _ X3 N3 e3 => ?_)
    refine g_pop C X3 d19_8 9 rfl ?_
    exact g_retV C X3 K d19_9 (by decide) (by decide) e3 ⟨rfl, N3, rfl⟩
  · refine g_iloadN C X0 d19_0 1 rfl ?_
    refine g_iloadN C X0 d19_1 2 rfl ?_
    refine g_getS C X0 (w_55 hw) Via.refl e0 F0 d19_2 5 (fun T4 X4 e4 => ?_)
    refine g_callS0 C X4 (b_0 hw) d19_5 [(.int 1), (.int 3), (.ref sa1)] [] 0 (rm20_3_1r hw Z0 ) N0 pd_0 e4 8 (fun T5 _ X5 N5 e5 => ?_)
    refine g_pop C X5 d19_8 9 rfl ?_
    exact g_retV C X5 K d19_9 (by decide) (by decide) e5 ⟨rfl, N5, rfl⟩
theorem rm18_3_1 {o1 : Addr} {kd1 : ClassId} {c1 c2 c3 : Int32} {wf1 : Value} (hw : OwnW a0 Z) (Z0 : n0 ≤ h0.size) (F0 : Arv Z h0 o1 kd1 .byte 3 [(.int c1), (.int c2), (.int c3)] (.int 0)) (F1 : OSf Z h0 wf1) (hwf : wf1.isRef = true) : OwnMF l Z y18 jdk_43_method_2_code 2 (some .char) ws ⟨2, 0, 0, 27⟩ #[(.ref o1), (.int 1)] h0 (OwnQ (some (.int (own_ch c2))) h0 n0) := by
  refine bo (plainFor_of_name pn_18) ?_
  intro p e s m below meth c T0 G C hnm hnamed X0 e0 K
  have N0 := Fr.nil n0
  refine Goes.to (congrArg T0.setTop (ef_18ri m o1 (1 : Int32))) ?_
  refine g_iloadN C X0 d18_0 1 rfl ?_
  refine g_aloadN C X0 d18_1 2 rfl rfl ?_
  refine g_arraylength C X0 e0 F0 d18_2 3 ?_
  refine g_callSn C X0 (b_1 hw) d18_3 [(.int 1), (.int 3)] [] 0 (rm19_3_1 hw Z0 F1 hwf) N0 pd_1 e0 6 (fun T1 _ X1 N1 e1 => ?_)
  refine g_aloadN C X1 d18_6 7 rfl rfl ?_
  refine g_iloadN C X1 d18_7 8 rfl ?_
  refine g_baload C X1 e1 F0 (by decide) (v := (.int c2)) rfl d18_8 9 ?_
  refine g_sipush C X1 d18_9 12 (v := 255) rfl ?_
  refine g_iand C X1 d18_12 13 ?_
  refine g_i2c C X1 d18_13 14 ?_
  exact g_retN C X1 K (by simp) d18_14 (by decide) (by decide) e1 ⟨rfl, N1, rfl⟩
theorem rm16_3_1 {o1 o2 : Addr} {kd1 : ClassId} {c1 c2 c3 cs1 : Int32} {wf1 : Value} (hw : OwnW a0 Z) (Z0 : n0 ≤ h0.size) (F0 : OEs Z h0 o1) (F1 : OFv Z h0 o1 (.ref o2)) (F2 : OFc Z h0 o1) (F3 : Arv Z h0 o2 kd1 .byte 3 [(.int c1), (.int c2), (.int c3)] (.int 0)) (F4 : OSc Z h0 cs1) (F5 : OSf Z h0 wf1) (hcs : ¬ cs1 = (0 : Int32)) (hwf : wf1.isRef = true) : OwnMF l Z y16 jdk_42_method_56_code 2 (some .char) ws ⟨3, 0, 0, 40⟩ #[(.ref o1), (.int 1)] h0 (OwnQ (some (.int (own_ch c2))) h0 n0) := by
  refine bo (plainFor_of_name pn_2) ?_
  intro p e s m below meth c T0 G C hnm hnamed X0 e0 K
  have N0 := Fr.nil n0
  refine Goes.to (congrArg T0.setTop (ef_16ri m o1 (1 : Int32))) ?_
  refine g_aloadN C X0 d16_0 1 rfl rfl ?_
  refine g_callV0 C X0 (b_2 hw) F0 d16_1 [] [] 0 (rm17 hw Z0 F2 F4 hcs) N0 pd_2 e0 4 (fun T1 _ X1 N1 e1 => ?_)
  refine g_if_eq C X1 d16_4 16 7 (fun hc4 => absurd hc4 (by decide)) (fun hc4 => ?_)
  refine g_aloadN C X1 d16_7 8 rfl rfl ?_
  refine g_getF C X1 (w_25 hw) Via.refl e1 F1 d16_8 11 (fun T2 X2 e2 => ?_)
  refine g_iloadN C X2 d16_11 12 rfl ?_
  refine g_callS0 C X2 (b_3 hw) d16_12 [(.ref o2), (.int 1)] [] 0 (rm18_3_1 hw Z0 F3 F5 hwf) N1 pd_3 e2 15 (fun T3 _ X3 N3 e3 => ?_)
  exact g_retN C X3 K (by simp) d16_15 (by decide) (by decide) e3 ⟨(by rw [own_narr]), N3, rfl⟩
theorem rm20_3_2n  (hw : OwnW a0 Z) (Z0 : n0 ≤ h0.size) : OwnMF l Z y20 jdk_41_method_11_code 3 (some .int) ws ⟨0, 0, 0, 0⟩ #[(.int 2), (.int 3), .null] h0 (OwnQ (some (.int 2)) h0 n0) := by
  refine bo (plainFor_of_name pn_11) ?_
  intro p e s m below meth c T0 G C hnm hnamed X0 e0 K
  have N0 := Fr.nil n0
  refine Goes.to (congrArg T0.setTop (ef_20iin m (2 : Int32) (3 : Int32))) ?_
  refine g_iloadN C X0 d20_0 1 rfl ?_
  refine g_if_lt C X0 d20_1 9 4 (fun hc1 => absurd hc1 (by decide)) (fun hc1 => ?_)
  refine g_iloadN C X0 d20_4 5 rfl ?_
  refine g_iloadN C X0 d20_5 6 rfl ?_
  refine g_icmp_lt C X0 d20_6 16 9 (fun hc6 => ?_) (fun hc6 => absurd hc6 (by decide))
  refine g_iloadN C X0 d20_16 17 rfl ?_
  exact g_retI C X0 K d20_17 (by decide) (by decide) e0 ⟨rfl, N0, rfl⟩
theorem rm20_3_2r {o1 : Addr} (hw : OwnW a0 Z) (Z0 : n0 ≤ h0.size) : OwnMF l Z y20 jdk_41_method_11_code 3 (some .int) ws ⟨0, 0, 0, 0⟩ #[(.int 2), (.int 3), (.ref o1)] h0 (OwnQ (some (.int 2)) h0 n0) := by
  refine bo (plainFor_of_name pn_11) ?_
  intro p e s m below meth c T0 G C hnm hnamed X0 e0 K
  have N0 := Fr.nil n0
  refine Goes.to (congrArg T0.setTop (ef_20iir m (2 : Int32) (3 : Int32) o1)) ?_
  refine g_iloadN C X0 d20_0 1 rfl ?_
  refine g_if_lt C X0 d20_1 9 4 (fun hc1 => absurd hc1 (by decide)) (fun hc1 => ?_)
  refine g_iloadN C X0 d20_4 5 rfl ?_
  refine g_iloadN C X0 d20_5 6 rfl ?_
  refine g_icmp_lt C X0 d20_6 16 9 (fun hc6 => ?_) (fun hc6 => absurd hc6 (by decide))
  refine g_iloadN C X0 d20_16 17 rfl ?_
  exact g_retI C X0 K d20_17 (by decide) (by decide) e0 ⟨rfl, N0, rfl⟩
theorem rm19_3_2 {wf1 : Value} (hw : OwnW a0 Z) (Z0 : n0 ≤ h0.size) (F0 : OSf Z h0 wf1) (hwf : wf1.isRef = true) : OwnMF l Z y19 jdk_42_method_155_code 2 none ws ⟨1, 0, 0, 14⟩ #[(.int 2), (.int 3)] h0 (OwnQ none h0 n0) := by
  refine bo (plainFor_of_name pn_2) ?_
  intro p e s m below meth c T0 G C hnm hnamed X0 e0 K
  have N0 := Fr.nil n0
  refine Goes.to (congrArg T0.setTop (ef_19ii m (2 : Int32) (3 : Int32))) ?_
  rcases ref_cases hwf with rfl | ⟨sa1, rfl⟩
  · refine g_iloadN C X0 d19_0 1 rfl ?_
    refine g_iloadN C X0 d19_1 2 rfl ?_
    refine g_getS C X0 (w_55 hw) Via.refl e0 F0 d19_2 5 (fun T2 X2 e2 => ?_)
    refine g_callS0 C X2 (b_0 hw) d19_5 [(.int 2), (.int 3), .null] [] 0 (rm20_3_2n hw Z0 ) N0 pd_0 e2 8 (fun T3 _ X3 N3 e3 => ?_)
    refine g_pop C X3 d19_8 9 rfl ?_
    exact g_retV C X3 K d19_9 (by decide) (by decide) e3 ⟨rfl, N3, rfl⟩
  · refine g_iloadN C X0 d19_0 1 rfl ?_
    refine g_iloadN C X0 d19_1 2 rfl ?_
    refine g_getS C X0 (w_55 hw) Via.refl e0 F0 d19_2 5 (fun T4 X4 e4 => ?_)
    refine g_callS0 C X4 (b_0 hw) d19_5 [(.int 2), (.int 3), (.ref sa1)] [] 0 (rm20_3_2r hw Z0 ) N0 pd_0 e4 8 (fun T5 _ X5 N5 e5 => ?_)
    refine g_pop C X5 d19_8 9 rfl ?_
    exact g_retV C X5 K d19_9 (by decide) (by decide) e5 ⟨rfl, N5, rfl⟩
theorem rm18_3_2 {o1 : Addr} {kd1 : ClassId} {c1 c2 c3 : Int32} {wf1 : Value} (hw : OwnW a0 Z) (Z0 : n0 ≤ h0.size) (F0 : Arv Z h0 o1 kd1 .byte 3 [(.int c1), (.int c2), (.int c3)] (.int 0)) (F1 : OSf Z h0 wf1) (hwf : wf1.isRef = true) : OwnMF l Z y18 jdk_43_method_2_code 2 (some .char) ws ⟨2, 0, 0, 27⟩ #[(.ref o1), (.int 2)] h0 (OwnQ (some (.int (own_ch c3))) h0 n0) := by
  refine bo (plainFor_of_name pn_18) ?_
  intro p e s m below meth c T0 G C hnm hnamed X0 e0 K
  have N0 := Fr.nil n0
  refine Goes.to (congrArg T0.setTop (ef_18ri m o1 (2 : Int32))) ?_
  refine g_iloadN C X0 d18_0 1 rfl ?_
  refine g_aloadN C X0 d18_1 2 rfl rfl ?_
  refine g_arraylength C X0 e0 F0 d18_2 3 ?_
  refine g_callSn C X0 (b_1 hw) d18_3 [(.int 2), (.int 3)] [] 0 (rm19_3_2 hw Z0 F1 hwf) N0 pd_1 e0 6 (fun T1 _ X1 N1 e1 => ?_)
  refine g_aloadN C X1 d18_6 7 rfl rfl ?_
  refine g_iloadN C X1 d18_7 8 rfl ?_
  refine g_baload C X1 e1 F0 (by decide) (v := (.int c3)) rfl d18_8 9 ?_
  refine g_sipush C X1 d18_9 12 (v := 255) rfl ?_
  refine g_iand C X1 d18_12 13 ?_
  refine g_i2c C X1 d18_13 14 ?_
  exact g_retN C X1 K (by simp) d18_14 (by decide) (by decide) e1 ⟨rfl, N1, rfl⟩
theorem rm16_3_2 {o1 o2 : Addr} {kd1 : ClassId} {c1 c2 c3 cs1 : Int32} {wf1 : Value} (hw : OwnW a0 Z) (Z0 : n0 ≤ h0.size) (F0 : OEs Z h0 o1) (F1 : OFv Z h0 o1 (.ref o2)) (F2 : OFc Z h0 o1) (F3 : Arv Z h0 o2 kd1 .byte 3 [(.int c1), (.int c2), (.int c3)] (.int 0)) (F4 : OSc Z h0 cs1) (F5 : OSf Z h0 wf1) (hcs : ¬ cs1 = (0 : Int32)) (hwf : wf1.isRef = true) : OwnMF l Z y16 jdk_42_method_56_code 2 (some .char) ws ⟨3, 0, 0, 40⟩ #[(.ref o1), (.int 2)] h0 (OwnQ (some (.int (own_ch c3))) h0 n0) := by
  refine bo (plainFor_of_name pn_2) ?_
  intro p e s m below meth c T0 G C hnm hnamed X0 e0 K
  have N0 := Fr.nil n0
  refine Goes.to (congrArg T0.setTop (ef_16ri m o1 (2 : Int32))) ?_
  refine g_aloadN C X0 d16_0 1 rfl rfl ?_
  refine g_callV0 C X0 (b_2 hw) F0 d16_1 [] [] 0 (rm17 hw Z0 F2 F4 hcs) N0 pd_2 e0 4 (fun T1 _ X1 N1 e1 => ?_)
  refine g_if_eq C X1 d16_4 16 7 (fun hc4 => absurd hc4 (by decide)) (fun hc4 => ?_)
  refine g_aloadN C X1 d16_7 8 rfl rfl ?_
  refine g_getF C X1 (w_25 hw) Via.refl e1 F1 d16_8 11 (fun T2 X2 e2 => ?_)
  refine g_iloadN C X2 d16_11 12 rfl ?_
  refine g_callS0 C X2 (b_3 hw) d16_12 [(.ref o2), (.int 2)] [] 0 (rm18_3_2 hw Z0 F3 F5 hwf) N1 pd_3 e2 15 (fun T3 _ X3 N3 e3 => ?_)
  exact g_retN C X3 K (by simp) d16_15 (by decide) (by decide) e3 ⟨(by rw [own_narr]), N3, rfl⟩
theorem rm7_3 {o1 o2 : Addr} {kd1 : ClassId} {c1 c2 c3 cs1 : Int32} (hw : OwnW a0 Z) (Z0 : n0 ≤ h0.size) (F0 : OEs Z h0 o1) (F1 : OFv Z h0 o1 (.ref o2)) (F2 : OFc Z h0 o1) (F3 : Arv Z h0 o2 kd1 .byte 3 [(.int c1), (.int c2), (.int c3)] (.int 0)) (F4 : OSc Z h0 cs1) (hcs : ¬ cs1 = (0 : Int32)) : OwnMF l Z y7 jdk_42_method_54_code 1 (some .int) ws ⟨1, 0, 0, 13⟩ #[(.ref o1)] h0 (OwnQ (some (.int 3)) h0 n0) := by
  refine bo (plainFor_of_name pn_2) ?_
  intro p e s m below meth c T0 G C hnm hnamed X0 e0 K
  have N0 := Fr.nil n0
  refine Goes.to (congrArg T0.setTop (ef_7r m o1)) ?_
  refine g_aloadN C X0 d7_0 1 rfl rfl ?_
  refine g_getF C X0 (w_25 hw) Via.refl e0 F1 d7_1 4 (fun T1 X1 e1 => ?_)
  refine g_arraylength C X1 e1 F3 d7_4 5 ?_
  refine g_aloadN C X1 d7_5 6 rfl rfl ?_
  refine g_callV0 C X1 (b_5 hw) F0 d7_6 [] [(.int 3)] 1 (rm8 hw Z0 F2 F4 hcs) N0 pd_5 e1 9 (fun T2 _ X2 N2 e2 => ?_)
  refine g_ishr C X2 d7_9 10 ?_
  exact g_retI C X2 K d7_10 (by decide) (by decide) e2 ⟨(by decide), N2, rfl⟩
def Q24_3_0_1 (Z : State) (o1 : Addr) (kd1 : ClassId) (c1 : Int32) (c2 : Int32) (c3 : Int32) (h0 : Heap) (n0 : Nat) (v : Option Value) (h : Heap) (L : List Loc) : Prop := ∃ (o3 : Addr) (kd3 : ClassId), v = some (.ref o3) ∧ Fr n0 L ∧ h0.size ≤ o3 ∧ Keep h0 h [] ∧ Arv Z h o3 kd3 .byte 1 [(.int c1)] (.int 0)
theorem rm24_3_0_1 {o1 : Addr} {kd1 : ClassId} {c1 c2 c3 : Int32} (hw : OwnW a0 Z) (Z0 : n0 ≤ h0.size) (F0 : Arv Z h0 o1 kd1 .byte 3 [(.int c1), (.int c2), (.int c3)] (.int 0)) : OwnMF l Z y24 jdk_65_method_133_code 5 (some (.array .byte)) ws ⟨1, 1, 1, 18⟩ #[(.ref o1), (.int 0), (.int 1)] h0 (Q24_3_0_1 Z o1 kd1 c1 c2 c3 h0 n0) := by
  refine bo (plainFor_of_name pn_23) ?_
  intro p e s m below meth c T0 G C hnm hnamed X0 e0 K
  have N0 := Fr.nil n0
  refine Goes.to (congrArg T0.setTop (ef_24rii m o1 (0 : Int32) (1 : Int32))) ?_
  have K00 := Keep.refl h0 []
  refine g_iloadN C X0 d24_0 1 rfl ?_
  refine g_iloadN C X0 d24_1 2 rfl ?_
  refine g_callSn C X0 (b_12 hw) d24_2 [(.int 0), (.int 1)] [] 0 (rm25_0_1 hw Z0 ) N0 pd_1 e0 5 (fun T1 _ X1 N1 e1 => ?_)
  refine g_iloadN C X1 d24_5 6 rfl ?_
  refine g_iloadN C X1 d24_6 7 rfl ?_
  refine g_isub C X1 d24_7 8 ?_
  rw [show (1 : Int32) - 0 = 1 from by decide]
  refine g_istoreN C X1 d24_8 9 (w := 1) rfl (ls' := #[rv o1, iv 0, iv 1, iv 1, uu]) rfl ?_
  refine g_iloadN C X1 d24_9 10 rfl ?_
  refine g_newA (aty := .byte) (n := (1 : Int32)) C X1 (cap := 1) (w_20 hw) e1 d24_10 12 (by decide) (by decide) (by decide) (by decide) (by decide) (fun T2 h2 b2 ki2 X2 e2 g2 E2 A2 => ?_)
  have f4 := F0.ext E2
  have gn_b2 : n0 ≤ b2 := Nat.le_trans Z0 (Nat.le_of_eq g2.symm)
  have Z2 := Nat.le_trans Z0 E2.1
  have sz_b2 : h0.size ≤ b2 := Nat.le_trans K00.1 (Nat.le_of_eq g2.symm)
  have K2 := K00.ext E2
  have f5 : Arv Z h2 b2 ki2 .byte 1 [(.int 0)] (.int 0) := A2.pad (pad_rep [] (.int 0) 1)
  refine g_astore C X2 d24_12 14 rfl (ls' := #[rv o1, iv 0, iv 1, iv 1, rv b2]) rfl ?_
  refine g_aloadN C X2 d24_14 15 rfl rfl ?_
  refine g_iloadN C X2 d24_15 16 rfl ?_
  refine g_aload C X2 d24_16 18 rfl rfl ?_
  refine g_iconst C X2 d24_18 19 (v := 0) rfl ?_
  refine g_aloadN C X2 d24_19 20 rfl rfl ?_
  refine g_arraylength C X2 e2 f4 d24_20 21 ?_
  refine g_iloadN C X2 d24_21 22 rfl ?_
  refine g_isub C X2 d24_22 23 ?_
  rw [show (3 : Int32) - 0 = 3 from by decide]
  refine g_iloadN C X2 d24_23 24 rfl ?_
  refine g_callS0 C X2 (b_13 hw) d24_24 [(.int 3), (.int 1)] [(.int 0), (.ref b2), (.int 0), (.ref o1)] 4 (rm26 hw Z2) N1 pd_11 e2 27 (fun T6 _ X6 N6 e6 => ?_)
  rw [show fMin (3 : Int32) (1 : Int32) = (1 : Int32) from by decide]
  refine g_acopy C X6 (us := [(.int c1)]) (ur := [(.int c1)]) (w_115 hw) (w_118 hw) (w_116 hw) (w_117 hw) e6 f4 f5 rfl (by decide) (by decide) (by decide) (by decide) (by decide) rfl (by simp; try decide) rfl N6 gn_b2 rfl d24_27 30 (by decide) (W := 0) (Nat.le_of_eq rfl) (by decide) (fun T7 h7 L7 X7 e7 N7 Kq7 V7 => ?_)
  have K7 := K2.trans Kq7 (allS (Or.inr sz_b2) all0)
  refine g_aload C X7 d24_30 32 rfl rfl ?_
  exact g_retA C X7 K rfl rfl rfl d24_32 (by decide) (by decide) e7 ⟨b2, ki2, rfl, N7, sz_b2, K7, V7⟩
def Q23_3_0_1 (Z : State) (o1 : Addr) (kd1 : ClassId) (c1 : Int32) (c2 : Int32) (c3 : Int32) (h0 : Heap) (n0 : Nat) (v : Option Value) (h : Heap) (L : List Loc) : Prop := ∃ (o3 : Addr) (kd3 : ClassId), v = some (.ref o3) ∧ Fr n0 L ∧ h0.size ≤ o3 ∧ Keep h0 h [] ∧ Arv Z h o3 kd3 .byte 1 [(.int c1)] (.int 0)
theorem rm23_3_0_1 {o1 : Addr} {kd1 : ClassId} {c1 c2 c3 : Int32} (hw : OwnW a0 Z) (Z0 : n0 ≤ h0.size) (F0 : Arv Z h0 o1 kd1 .byte 3 [(.int c1), (.int c2), (.int c3)] (.int 0)) : OwnMF l Z y23 jdk_65_method_132_code 3 (some (.array .byte)) ws ⟨2, 1, 1, 34⟩ #[(.ref o1), (.int 0), (.int 1)] h0 (Q23_3_0_1 Z o1 kd1 c1 c2 c3 h0 n0) := by
  refine bo (plainFor_of_name pn_23) ?_
  intro p e s m below meth c T0 G C hnm hnamed X0 e0 K
  have N0 := Fr.nil n0
  refine Goes.to (congrArg T0.setTop (ef_23rii m o1 (0 : Int32) (1 : Int32))) ?_
  have K00 := Keep.refl h0 []
  refine g_iloadN C X0 d23_0 1 rfl ?_
  refine g_if_ne C X0 d23_1 10 4 (fun hc1 => absurd hc1 (by decide)) (fun hc1 => ?_)
  refine g_iloadN C X0 d23_4 5 rfl ?_
  refine g_aloadN C X0 d23_5 6 rfl rfl ?_
  refine g_arraylength C X0 e0 F0 d23_6 7 ?_
  refine g_icmp_eq C X0 d23_7 17 10 (fun hc7 => absurd hc7 (by decide)) (fun hc7 => ?_)
  refine g_aloadN C X0 d23_10 11 rfl rfl ?_
  refine g_iloadN C X0 d23_11 12 rfl ?_
  refine g_iloadN C X0 d23_12 13 rfl ?_
  refine g_callS C X0 (w_106 hw) (w_107 hw) (w_104 hw) (w_108 hw) d23_13 [(.ref o1), (.int 0), (.int 1)] [] 0 (rm24_3_0_1 hw Z0 F0) pd_12 e0 16 (fun u1 T1 L1 X1 hQ1 => ?_)
  obtain ⟨o31, kd31, rfl, Nq1, szo31, Kq1, q1_0⟩ := hQ1
  have N1 := Fr.app N0 Nq1
  have sz_o31 : h0.size ≤ o31 := Nat.le_trans K00.1 szo31
  have K1 := K00.trans Kq1 all0
  refine ret1 ?_
  exact g_retA C X1 K rfl rfl rfl d23_16 (by decide) (by decide) rfl ⟨o31, kd31, rfl, N1, sz_o31, K1, q1_0⟩
def Q22_3_0_1 (Z : State) (o1 : Addr) (kd1 : ClassId) (c1 : Int32) (c2 : Int32) (c3 : Int32) (h0 : Heap) (n0 : Nat) (v : Option Value) (h : Heap) (L : List Loc) : Prop := ∃ (o3 : Addr) (o4 : Addr) (kd3 : ClassId), v = some (.ref o3) ∧ Fr n0 L ∧ h0.size ≤ o3 ∧ h0.size ≤ o4 ∧ Keep h0 h [] ∧ OEs Z h o3 ∧ OFv Z h o3 (.ref o4) ∧ OFc Z h o3 ∧ Arv Z h o4 kd3 .byte 1 [(.int c1)] (.int 0)
theorem rm22_3_0_1 {o1 : Addr} {kd1 : ClassId} {c1 c2 c3 : Int32} (hw : OwnW a0 Z) (Z0 : n0 ≤ h0.size) (F0 : Arv Z h0 o1 kd1 .byte 3 [(.int c1), (.int c2), (.int c3)] (.int 0)) : OwnMF l Z y22 jdk_43_method_47_code 3 (some (.object "java/lang/String")) ws ⟨3, 2, 5, 50⟩ #[(.ref o1), (.int 0), (.int 1)] h0 (Q22_3_0_1 Z o1 kd1 c1 c2 c3 h0 n0) := by
  refine bo (plainFor_of_name pn_18) ?_
  intro p e s m below meth c T0 G C hnm hnamed X0 e0 K
  have N0 := Fr.nil n0
  refine Goes.to (congrArg T0.setTop (ef_22rii m o1 (0 : Int32) (1 : Int32))) ?_
  have K00 := Keep.refl h0 []
  refine g_iloadN C X0 d22_0 1 rfl ?_
  refine g_if_ne C X0 d22_1 7 4 (fun hc1 => ?_) (fun hc1 => absurd hc1 (by decide))
  refine g_new C X0 (w_101 hw) (w_7 hw) (w_8 hw) e0 d22_7 10 (by decide) (by decide) (fun T1 h1 b1 X1 e1 g1 E1 A1 D1 => ?_)
  have f3 := F0.ext E1
  have gn_b1 : n0 ≤ b1 := Nat.le_trans Z0 (Nat.le_of_eq g1.symm)
  have Z1 := Nat.le_trans Z0 E1.1
  have sz_b1 : h0.size ≤ b1 := Nat.le_trans K00.1 (Nat.le_of_eq g1.symm)
  have K1 := K00.ext E1
  have f4 : OFv Z h1 b1 .null := D1 (Or.inr (w_21 hw)) (ty := (.array .byte)) (by decide)
  have f5 : OFc Z h1 b1 := D1 (Or.inr (w_22 hw)) (ty := .byte) (by decide)
  refine g_dup C X1 d22_10 11 rfl ?_
  refine g_aloadN C X1 d22_11 12 rfl rfl ?_
  refine g_iloadN C X1 d22_12 13 rfl ?_
  refine g_iloadN C X1 d22_13 14 rfl ?_
  refine g_iloadN C X1 d22_14 15 rfl ?_
  refine g_iadd C X1 d22_15 16 ?_
  rw [show (0 : Int32) + 1 = 1 from by decide]
  refine g_callS C X1 (w_102 hw) (w_103 hw) (w_104 hw) (w_105 hw) d22_16 [(.ref o1), (.int 0), (.int 1)] [(.ref b1), (.ref b1)] 2 (rm23_3_0_1 hw Z1 f3) pd_12 e1 19 (fun u6 T6 L6 X6 hQ6 => ?_)
  obtain ⟨o36, kd36, rfl, Nq6, szo36, Kq6, q6_0⟩ := hQ6
  have N6 := Fr.app N0 Nq6
  have n7 : b1 ≠ o36 := Nat.ne_of_lt (Nat.lt_of_lt_of_le A1.lt szo36)
  have f10 := A1.keep Kq6
  have f11 := f4.keep Kq6 nin0
  have f12 := f5.keep Kq6 nin0
  have Z6 := Nat.le_trans Z1 Kq6.1
  have sz_o36 : h0.size ≤ o36 := Nat.le_trans K1.1 szo36
  have K6 := K1.trans Kq6 all0
  refine ret1 ?_
  refine g_iconst C X6 d22_19 20 (v := 0) rfl ?_
  refine g_callI C X6 rfl (w_119 hw) (w_120 hw) (w_8 hw) (w_121 hw) d22_20 [(.ref o36), (.int 0)] [(.ref b1)] 1 (rm27 hw Z6 f10 f11 f12 gn_b1) pd_13 rfl 23 (fun u13 T13 L13 X13 hQ13 => ?_)
  obtain ⟨rfl, Nq13, Kq13, q13_0, q13_1, q13_2⟩ := hQ13
  have N13 := Fr.app N6 Nq13
  have f16 := q6_0.keep Kq13 (ninS (Ne.symm n7) nin0)
  have K13 := K6.trans Kq13 (allS (Or.inr sz_b1) all0)
  refine ret0 ?_
  exact g_retA C X13 K rfl rfl rfl d22_23 (by decide) (by decide) rfl ⟨b1, o36, kd36, rfl, N13, sz_b1, sz_o36, K13, q13_0, q13_1, q13_2, f16⟩
def Q9_3_0_1 (Z : State) (o1 : Addr) (o2 : Addr) (kd1 : ClassId) (c1 : Int32) (c2 : Int32) (c3 : Int32) (cs1 : Int32) (wf1 : Value) (h0 : Heap) (n0 : Nat) (v : Option Value) (h : Heap) (L : List Loc) : Prop := ∃ (o3 : Addr) (o4 : Addr) (kd3 : ClassId), v = some (.ref o3) ∧ Fr n0 L ∧ h0.size ≤ o3 ∧ h0.size ≤ o4 ∧ Keep h0 h [] ∧ OEs Z h o3 ∧ OFv Z h o3 (.ref o4) ∧ OFc Z h o3 ∧ Arv Z h o4 kd3 .byte 1 [(.int c1)] (.int 0)
theorem rm9_3_0_1 {o1 o2 : Addr} {kd1 : ClassId} {c1 c2 c3 cs1 : Int32} {wf1 : Value} (hw : OwnW a0 Z) (Z0 : n0 ≤ h0.size) (F0 : OEs Z h0 o1) (F1 : OFv Z h0 o1 (.ref o2)) (F2 : OFc Z h0 o1) (F3 : Arv Z h0 o2 kd1 .byte 3 [(.int c1), (.int c2), (.int c3)] (.int 0)) (F4 : OSc Z h0 cs1) (F5 : OSf Z h0 wf1) (hcs : ¬ cs1 = (0 : Int32)) (hwf : wf1.isRef = true) : OwnMF l Z y9 jdk_42_method_92_code 5 (some (.object "java/lang/String")) ws ⟨4, 2, 5, 64⟩ #[(.ref o1), (.int 0), (.int 1)] h0 (Q9_3_0_1 Z o1 o2 kd1 c1 c2 c3 cs1 wf1 h0 n0) := by
  refine bo (plainFor_of_name pn_2) ?_
  intro p e s m below meth c T0 G C hnm hnamed X0 e0 K
  have N0 := Fr.nil n0
  refine Goes.to (congrArg T0.setTop (ef_9rii m o1 (0 : Int32) (1 : Int32))) ?_
  have K00 := Keep.refl h0 []
  refine g_aloadN C X0 d9_0 1 rfl rfl ?_
  refine g_callV0 C X0 (b_6 hw) F0 d9_1 [] [] 0 (rm7_3 hw Z0 F0 F1 F2 F3 F4 hcs) N0 pd_6 e0 4 (fun T1 _ X1 N1 e1 => ?_)
  refine g_istoreN C X1 d9_4 5 (w := 3) rfl (ls' := #[rv o1, iv 0, iv 1, iv 3, uu]) rfl ?_
  refine g_iloadN C X1 d9_5 6 rfl ?_
  refine g_iloadN C X1 d9_6 7 rfl ?_
  refine g_iloadN C X1 d9_7 8 rfl ?_
  refine g_callSn C X1 (b_7 hw) d9_8 [(.int 0), (.int 1), (.int 3)] [] 0 (rm10 hw Z0 F5 hwf (by decide) (by decide) (by decide)) N1 pd_7 e1 11 (fun T2 _ X2 N2 e2 => ?_)
  refine g_iloadN C X2 d9_11 12 rfl ?_
  refine g_if_ne C X2 d9_12 22 15 (fun hc12 => absurd hc12 (by decide)) (fun hc12 => ?_)
  refine g_iloadN C X2 d9_15 16 rfl ?_
  refine g_iloadN C X2 d9_16 17 rfl ?_
  refine g_icmp_ne C X2 d9_17 22 20 (fun hc17 => ?_) (fun hc17 => absurd hc17 (by decide))
  refine g_iloadN C X2 d9_22 23 rfl ?_
  refine g_iloadN C X2 d9_23 24 rfl ?_
  refine g_isub C X2 d9_24 25 ?_
  rw [show (1 : Int32) - 0 = 1 from by decide]
  refine g_istore C X2 d9_25 27 (w := 1) rfl (ls' := #[rv o1, iv 0, iv 1, iv 3, iv 1]) rfl ?_
  refine g_aloadN C X2 d9_27 28 rfl rfl ?_
  refine g_callV0 C X2 (b_2 hw) F0 d9_28 [] [] 0 (rm17 hw Z0 F2 F4 hcs) N2 pd_2 e2 31 (fun T3 _ X3 N3 e3 => ?_)
  refine g_if_eq C X3 d9_31 47 34 (fun hc31 => absurd hc31 (by decide)) (fun hc31 => ?_)
  refine g_aloadN C X3 d9_34 35 rfl rfl ?_
  refine g_getF C X3 (w_25 hw) Via.refl e3 F1 d9_35 38 (fun T4 X4 e4 => ?_)
  refine g_iloadN C X4 d9_38 39 rfl ?_
  refine g_iload C X4 d9_39 41 rfl ?_
  refine g_callS C X4 (w_98 hw) (w_99 hw) (w_86 hw) (w_100 hw) d9_41 [(.ref o2), (.int 0), (.int 1)] [] 0 (rm22_3_0_1 hw Z0 F3) pd_14 e4 44 (fun u5 T5 L5 X5 hQ5 => ?_)
  obtain ⟨o35, o45, kd35, rfl, Nq5, szo35, szo45, Kq5, q5_0, q5_1, q5_2, q5_3⟩ := hQ5
  have N5 := Fr.app N3 Nq5
  have sz_o35 : h0.size ≤ o35 := Nat.le_trans K00.1 szo35
  have sz_o45 : h0.size ≤ o45 := Nat.le_trans K00.1 szo45
  have K5 := K00.trans Kq5 all0
  refine ret1 ?_
  refine g_goto C X5 d9_44 57 ?_
  exact g_retA C X5 K rfl rfl rfl d9_57 (by decide) (by decide) rfl ⟨o35, o45, kd35, rfl, N5, sz_o35, sz_o45, K5, q5_0, q5_1, q5_2, q5_3⟩
def Q6_3_0_1 (Z : State) (o1 : Addr) (o2 : Addr) (kd1 : ClassId) (c1 : Int32) (c2 : Int32) (c3 : Int32) (cs1 : Int32) (wf1 : Value) (h0 : Heap) (n0 : Nat) (v : Option Value) (h : Heap) (L : List Loc) : Prop := ∃ (o3 : Addr) (o4 : Addr) (kd3 : ClassId), v = some (.ref o3) ∧ Fr n0 L ∧ h0.size ≤ o3 ∧ h0.size ≤ o4 ∧ Keep h0 h [] ∧ OEs Z h o3 ∧ OFv Z h o3 (.ref o4) ∧ OFc Z h o3 ∧ Arv Z h o4 kd3 .byte 1 [(.int c1)] (.int 0)
theorem rm6_3_0_1 {o1 o2 : Addr} {kd1 : ClassId} {c1 c2 c3 cs1 : Int32} {wf1 : Value} (hw : OwnW a0 Z) (Z0 : n0 ≤ h0.size) (F0 : OEs Z h0 o1) (F1 : OFv Z h0 o1 (.ref o2)) (F2 : OFc Z h0 o1) (F3 : Arv Z h0 o2 kd1 .byte 3 [(.int c1), (.int c2), (.int c3)] (.int 0)) (F4 : OSc Z h0 cs1) (F5 : OSf Z h0 wf1) (hcs : ¬ cs1 = (0 : Int32)) (hwf : wf1.isRef = true) (hs1 : fIs (own_ch c1) = (0 : Int32)) (hs2 : ¬ fIs (own_ch c2) = (0 : Int32)) (hs3 : ¬ fIs (own_ch c3) = (0 : Int32)) : OwnMF l Z y6 prog_35_method_2_code 3 (some (.object "java/lang/String")) ws ⟨5, 2, 5, 80⟩ #[(.ref o1)] h0 (Q6_3_0_1 Z o1 o2 kd1 c1 c2 c3 cs1 wf1 h0 n0) := by
  refine bo (plainFor_of_name pn_6) ?_
  intro p e s m below meth c T0 G C hnm hnamed X0 e0 K
  have N0 := Fr.nil n0
  refine Goes.to (congrArg T0.setTop (ef_6r m o1)) ?_
  have K00 := Keep.refl h0 []
  refine g_iconst C X0 d6_0 1 (v := 0) rfl ?_
  refine g_istoreN C X0 d6_1 2 (w := 0) rfl (ls' := #[rv o1, iv 0, uu]) rfl ?_
  refine g_aloadN C X0 d6_2 3 rfl rfl ?_
  refine g_callV0 C X0 (b_8 hw) F0 d6_3 [] [] 0 (rm7_3 hw Z0 F0 F1 F2 F3 F4 hcs) N0 pd_6 e0 6 (fun T1 _ X1 N1 e1 => ?_)
  refine g_istoreN C X1 d6_6 7 (w := 3) rfl (ls' := #[rv o1, iv 0, iv 3]) rfl ?_
  refine g_iloadN C X1 d6_7 8 rfl ?_
  refine g_iloadN C X1 d6_8 9 rfl ?_
  refine g_icmp_ge C X1 d6_9 29 12 (fun hc9 => absurd hc9 (by decide)) (fun hc9 => ?_)
  refine g_aloadN C X1 d6_12 13 rfl rfl ?_
  refine g_iloadN C X1 d6_13 14 rfl ?_
  refine g_callV0 C X1 (b_10 hw) F0 d6_14 [(.int 0)] [] 0 (rm16_3_0 hw Z0 F0 F1 F2 F3 F4 F5 hcs hwf) N1 pd_9 e1 17 (fun T2 _ X2 N2 e2 => ?_)
  refine g_callS0 C X2 (b_11 hw) d6_17 [(.int (own_ch c1))] [] 0 (rm21 hw Z0) N2 pd_10 e2 20 (fun T3 _ X3 N3 e3 => ?_)
  refine g_if_eq C X3 d6_20 29 23 (fun hc20 => ?_) (fun hc20 => absurd hs1 hc20)
  refine g_iloadN C X3 d6_29 30 rfl ?_
  refine g_iloadN C X3 d6_30 31 rfl ?_
  refine g_icmp_le C X3 d6_31 53 34 (fun hc31 => absurd hc31 (by decide)) (fun hc31 => ?_)
  refine g_aloadN C X3 d6_34 35 rfl rfl ?_
  refine g_iloadN C X3 d6_35 36 rfl ?_
  refine g_iconst C X3 d6_36 37 (v := 1) rfl ?_
  refine g_isub C X3 d6_37 38 ?_
  rw [show (3 : Int32) - 1 = 2 from by decide]
  refine g_callV0 C X3 (b_10 hw) F0 d6_38 [(.int 2)] [] 0 (rm16_3_2 hw Z0 F0 F1 F2 F3 F4 F5 hcs hwf) N3 pd_9 e3 41 (fun T4 _ X4 N4 e4 => ?_)
  refine g_callS0 C X4 (b_11 hw) d6_41 [(.int (own_ch c3))] [] 0 (rm21 hw Z0) N4 pd_10 e4 44 (fun T5 _ X5 N5 e5 => ?_)
  refine g_if_eq C X5 d6_44 53 47 (fun hc44 => absurd hc44 hs3) (fun hc44 => ?_)
  refine g_iinc C X5 d6_47 50 rfl (w := 2) rfl (ls' := #[rv o1, iv 0, iv 2]) rfl ?_
  refine g_goto C X5 d6_50 29 ?_
  refine g_iloadN C X5 d6_29 30 rfl ?_
  refine g_iloadN C X5 d6_30 31 rfl ?_
  refine g_icmp_le C X5 d6_31 53 34 (fun hc31 => absurd hc31 (by decide)) (fun hc31 => ?_)
  refine g_aloadN C X5 d6_34 35 rfl rfl ?_
  refine g_iloadN C X5 d6_35 36 rfl ?_
  refine g_iconst C X5 d6_36 37 (v := 1) rfl ?_
  refine g_isub C X5 d6_37 38 ?_
  rw [show (2 : Int32) - 1 = 1 from by decide]
  refine g_callV0 C X5 (b_10 hw) F0 d6_38 [(.int 1)] [] 0 (rm16_3_1 hw Z0 F0 F1 F2 F3 F4 F5 hcs hwf) N5 pd_9 e5 41 (fun T6 _ X6 N6 e6 => ?_)
  refine g_callS0 C X6 (b_11 hw) d6_41 [(.int (own_ch c2))] [] 0 (rm21 hw Z0) N6 pd_10 e6 44 (fun T7 _ X7 N7 e7 => ?_)
  refine g_if_eq C X7 d6_44 53 47 (fun hc44 => absurd hc44 hs2) (fun hc44 => ?_)
  refine g_iinc C X7 d6_47 50 rfl (w := 1) rfl (ls' := #[rv o1, iv 0, iv 1]) rfl ?_
  refine g_goto C X7 d6_50 29 ?_
  refine g_iloadN C X7 d6_29 30 rfl ?_
  refine g_iloadN C X7 d6_30 31 rfl ?_
  refine g_icmp_le C X7 d6_31 53 34 (fun hc31 => absurd hc31 (by decide)) (fun hc31 => ?_)
  refine g_aloadN C X7 d6_34 35 rfl rfl ?_
  refine g_iloadN C X7 d6_35 36 rfl ?_
  refine g_iconst C X7 d6_36 37 (v := 1) rfl ?_
  refine g_isub C X7 d6_37 38 ?_
  rw [show (1 : Int32) - 1 = 0 from by decide]
  refine g_callV0 C X7 (b_10 hw) F0 d6_38 [(.int 0)] [] 0 (rm16_3_0 hw Z0 F0 F1 F2 F3 F4 F5 hcs hwf) N7 pd_9 e7 41 (fun T8 _ X8 N8 e8 => ?_)
  refine g_callS0 C X8 (b_11 hw) d6_41 [(.int (own_ch c1))] [] 0 (rm21 hw Z0) N8 pd_10 e8 44 (fun T9 _ X9 N9 e9 => ?_)
  refine g_if_eq C X9 d6_44 53 47 (fun hc44 => ?_) (fun hc44 => absurd hc20 hc44)
  refine g_aloadN C X9 d6_53 54 rfl rfl ?_
  refine g_iloadN C X9 d6_54 55 rfl ?_
  refine g_iloadN C X9 d6_55 56 rfl ?_
  refine g_callV C X9 (w_46 hw) (w_47 hw) (notFace_of_selects (args := #[]) (mvT C.2.1 (w_49 hw))) (w_49 hw) (w_48 hw) (w_50 hw) (w_8 hw) F0 d6_56 [(.int 0), (.int 1)] [] 0 (rm9_3_0_1 hw Z0 F0 F1 F2 F3 F4 F5 hcs hwf) pd_8 e9 59 (fun u10 T10 L10 X10 hQ10 => ?_)
  obtain ⟨o310, o410, kd310, rfl, Nq10, szo310, szo410, Kq10, q10_0, q10_1, q10_2, q10_3⟩ := hQ10
  have N10 := Fr.app N9 Nq10
  have sz_o310 : h0.size ≤ o310 := Nat.le_trans K00.1 szo310
  have sz_o410 : h0.size ≤ o410 := Nat.le_trans K00.1 szo410
  have K10 := K00.trans Kq10 all0
  refine ret1 ?_
  exact g_retA C X10 K rfl rfl rfl d6_59 (by decide) (by decide) rfl ⟨o310, o410, kd310, rfl, N10, sz_o310, sz_o410, K10, q10_0, q10_1, q10_2, q10_3⟩
theorem rm25_0_2  (hw : OwnW a0 Z) (Z0 : n0 ≤ h0.size) : OwnMF l Z y25 jdk_65_method_131_code 2 none ws ⟨0, 0, 0, 0⟩ #[(.int 0), (.int 2)] h0 (OwnQ none h0 n0) := by
  refine bo (plainFor_of_name pn_23) ?_
  intro p e s m below meth c T0 G C hnm hnamed X0 e0 K
  have N0 := Fr.nil n0
  refine Goes.to (congrArg T0.setTop (ef_25ii m (0 : Int32) (2 : Int32))) ?_
  refine g_iloadN C X0 d25_0 1 rfl ?_
  refine g_iloadN C X0 d25_1 2 rfl ?_
  refine g_icmp_ge C X0 d25_2 37 5 (fun hc2 => ?_) (fun hc2 => absurd hc2 (by decide))
  exact g_retV C X0 K d25_37 (by decide) (by decide) e0 ⟨rfl, N0, rfl⟩
def Q24_3_0_2 (Z : State) (o1 : Addr) (kd1 : ClassId) (c1 : Int32) (c2 : Int32) (c3 : Int32) (h0 : Heap) (n0 : Nat) (v : Option Value) (h : Heap) (L : List Loc) : Prop := ∃ (o3 : Addr) (kd3 : ClassId), v = some (.ref o3) ∧ Fr n0 L ∧ h0.size ≤ o3 ∧ Keep h0 h [] ∧ Arv Z h o3 kd3 .byte 2 [(.int c1), (.int c2)] (.int 0)
theorem rm24_3_0_2 {o1 : Addr} {kd1 : ClassId} {c1 c2 c3 : Int32} (hw : OwnW a0 Z) (Z0 : n0 ≤ h0.size) (F0 : Arv Z h0 o1 kd1 .byte 3 [(.int c1), (.int c2), (.int c3)] (.int 0)) : OwnMF l Z y24 jdk_65_method_133_code 5 (some (.array .byte)) ws ⟨1, 1, 2, 18⟩ #[(.ref o1), (.int 0), (.int 2)] h0 (Q24_3_0_2 Z o1 kd1 c1 c2 c3 h0 n0) := by
  refine bo (plainFor_of_name pn_23) ?_
  intro p e s m below meth c T0 G C hnm hnamed X0 e0 K
  have N0 := Fr.nil n0
  refine Goes.to (congrArg T0.setTop (ef_24rii m o1 (0 : Int32) (2 : Int32))) ?_
  have K00 := Keep.refl h0 []
  refine g_iloadN C X0 d24_0 1 rfl ?_
  refine g_iloadN C X0 d24_1 2 rfl ?_
  refine g_callSn C X0 (b_12 hw) d24_2 [(.int 0), (.int 2)] [] 0 (rm25_0_2 hw Z0 ) N0 pd_1 e0 5 (fun T1 _ X1 N1 e1 => ?_)
  refine g_iloadN C X1 d24_5 6 rfl ?_
  refine g_iloadN C X1 d24_6 7 rfl ?_
  refine g_isub C X1 d24_7 8 ?_
  rw [show (2 : Int32) - 0 = 2 from by decide]
  refine g_istoreN C X1 d24_8 9 (w := 2) rfl (ls' := #[rv o1, iv 0, iv 2, iv 2, uu]) rfl ?_
  refine g_iloadN C X1 d24_9 10 rfl ?_
  refine g_newA (aty := .byte) (n := (2 : Int32)) C X1 (cap := 2) (w_20 hw) e1 d24_10 12 (by decide) (by decide) (by decide) (by decide) (by decide) (fun T2 h2 b2 ki2 X2 e2 g2 E2 A2 => ?_)
  have f4 := F0.ext E2
  have gn_b2 : n0 ≤ b2 := Nat.le_trans Z0 (Nat.le_of_eq g2.symm)
  have Z2 := Nat.le_trans Z0 E2.1
  have sz_b2 : h0.size ≤ b2 := Nat.le_trans K00.1 (Nat.le_of_eq g2.symm)
  have K2 := K00.ext E2
  have f5 : Arv Z h2 b2 ki2 .byte 2 [(.int 0), (.int 0)] (.int 0) := A2.pad (pad_rep [] (.int 0) 2)
  refine g_astore C X2 d24_12 14 rfl (ls' := #[rv o1, iv 0, iv 2, iv 2, rv b2]) rfl ?_
  refine g_aloadN C X2 d24_14 15 rfl rfl ?_
  refine g_iloadN C X2 d24_15 16 rfl ?_
  refine g_aload C X2 d24_16 18 rfl rfl ?_
  refine g_iconst C X2 d24_18 19 (v := 0) rfl ?_
  refine g_aloadN C X2 d24_19 20 rfl rfl ?_
  refine g_arraylength C X2 e2 f4 d24_20 21 ?_
  refine g_iloadN C X2 d24_21 22 rfl ?_
  refine g_isub C X2 d24_22 23 ?_
  rw [show (3 : Int32) - 0 = 3 from by decide]
  refine g_iloadN C X2 d24_23 24 rfl ?_
  refine g_callS0 C X2 (b_13 hw) d24_24 [(.int 3), (.int 2)] [(.int 0), (.ref b2), (.int 0), (.ref o1)] 4 (rm26 hw Z2) N1 pd_11 e2 27 (fun T6 _ X6 N6 e6 => ?_)
  rw [show fMin (3 : Int32) (2 : Int32) = (2 : Int32) from by decide]
  refine g_acopy C X6 (us := [(.int c1), (.int c2)]) (ur := [(.int c1), (.int c2)]) (w_115 hw) (w_118 hw) (w_116 hw) (w_117 hw) e6 f4 f5 rfl (by decide) (by decide) (by decide) (by decide) (by decide) rfl (by simp; try decide) rfl N6 gn_b2 rfl d24_27 30 (by decide) (W := 0) (Nat.le_of_eq rfl) (by decide) (fun T7 h7 L7 X7 e7 N7 Kq7 V7 => ?_)
  have K7 := K2.trans Kq7 (allS (Or.inr sz_b2) all0)
  refine g_aload C X7 d24_30 32 rfl rfl ?_
  exact g_retA C X7 K rfl rfl rfl d24_32 (by decide) (by decide) e7 ⟨b2, ki2, rfl, N7, sz_b2, K7, V7⟩
def Q23_3_0_2 (Z : State) (o1 : Addr) (kd1 : ClassId) (c1 : Int32) (c2 : Int32) (c3 : Int32) (h0 : Heap) (n0 : Nat) (v : Option Value) (h : Heap) (L : List Loc) : Prop := ∃ (o3 : Addr) (kd3 : ClassId), v = some (.ref o3) ∧ Fr n0 L ∧ h0.size ≤ o3 ∧ Keep h0 h [] ∧ Arv Z h o3 kd3 .byte 2 [(.int c1), (.int c2)] (.int 0)
theorem rm23_3_0_2 {o1 : Addr} {kd1 : ClassId} {c1 c2 c3 : Int32} (hw : OwnW a0 Z) (Z0 : n0 ≤ h0.size) (F0 : Arv Z h0 o1 kd1 .byte 3 [(.int c1), (.int c2), (.int c3)] (.int 0)) : OwnMF l Z y23 jdk_65_method_132_code 3 (some (.array .byte)) ws ⟨2, 1, 2, 34⟩ #[(.ref o1), (.int 0), (.int 2)] h0 (Q23_3_0_2 Z o1 kd1 c1 c2 c3 h0 n0) := by
  refine bo (plainFor_of_name pn_23) ?_
  intro p e s m below meth c T0 G C hnm hnamed X0 e0 K
  have N0 := Fr.nil n0
  refine Goes.to (congrArg T0.setTop (ef_23rii m o1 (0 : Int32) (2 : Int32))) ?_
  have K00 := Keep.refl h0 []
  refine g_iloadN C X0 d23_0 1 rfl ?_
  refine g_if_ne C X0 d23_1 10 4 (fun hc1 => absurd hc1 (by decide)) (fun hc1 => ?_)
  refine g_iloadN C X0 d23_4 5 rfl ?_
  refine g_aloadN C X0 d23_5 6 rfl rfl ?_
  refine g_arraylength C X0 e0 F0 d23_6 7 ?_
  refine g_icmp_eq C X0 d23_7 17 10 (fun hc7 => absurd hc7 (by decide)) (fun hc7 => ?_)
  refine g_aloadN C X0 d23_10 11 rfl rfl ?_
  refine g_iloadN C X0 d23_11 12 rfl ?_
  refine g_iloadN C X0 d23_12 13 rfl ?_
  refine g_callS C X0 (w_106 hw) (w_107 hw) (w_104 hw) (w_108 hw) d23_13 [(.ref o1), (.int 0), (.int 2)] [] 0 (rm24_3_0_2 hw Z0 F0) pd_12 e0 16 (fun u1 T1 L1 X1 hQ1 => ?_)
  obtain ⟨o31, kd31, rfl, Nq1, szo31, Kq1, q1_0⟩ := hQ1
  have N1 := Fr.app N0 Nq1
  have sz_o31 : h0.size ≤ o31 := Nat.le_trans K00.1 szo31
  have K1 := K00.trans Kq1 all0
  refine ret1 ?_
  exact g_retA C X1 K rfl rfl rfl d23_16 (by decide) (by decide) rfl ⟨o31, kd31, rfl, N1, sz_o31, K1, q1_0⟩
def Q22_3_0_2 (Z : State) (o1 : Addr) (kd1 : ClassId) (c1 : Int32) (c2 : Int32) (c3 : Int32) (h0 : Heap) (n0 : Nat) (v : Option Value) (h : Heap) (L : List Loc) : Prop := ∃ (o3 : Addr) (o4 : Addr) (kd3 : ClassId), v = some (.ref o3) ∧ Fr n0 L ∧ h0.size ≤ o3 ∧ h0.size ≤ o4 ∧ Keep h0 h [] ∧ OEs Z h o3 ∧ OFv Z h o3 (.ref o4) ∧ OFc Z h o3 ∧ Arv Z h o4 kd3 .byte 2 [(.int c1), (.int c2)] (.int 0)
theorem rm22_3_0_2 {o1 : Addr} {kd1 : ClassId} {c1 c2 c3 : Int32} (hw : OwnW a0 Z) (Z0 : n0 ≤ h0.size) (F0 : Arv Z h0 o1 kd1 .byte 3 [(.int c1), (.int c2), (.int c3)] (.int 0)) : OwnMF l Z y22 jdk_43_method_47_code 3 (some (.object "java/lang/String")) ws ⟨3, 2, 6, 50⟩ #[(.ref o1), (.int 0), (.int 2)] h0 (Q22_3_0_2 Z o1 kd1 c1 c2 c3 h0 n0) := by
  refine bo (plainFor_of_name pn_18) ?_
  intro p e s m below meth c T0 G C hnm hnamed X0 e0 K
  have N0 := Fr.nil n0
  refine Goes.to (congrArg T0.setTop (ef_22rii m o1 (0 : Int32) (2 : Int32))) ?_
  have K00 := Keep.refl h0 []
  refine g_iloadN C X0 d22_0 1 rfl ?_
  refine g_if_ne C X0 d22_1 7 4 (fun hc1 => ?_) (fun hc1 => absurd hc1 (by decide))
  refine g_new C X0 (w_101 hw) (w_7 hw) (w_8 hw) e0 d22_7 10 (by decide) (by decide) (fun T1 h1 b1 X1 e1 g1 E1 A1 D1 => ?_)
  have f3 := F0.ext E1
  have gn_b1 : n0 ≤ b1 := Nat.le_trans Z0 (Nat.le_of_eq g1.symm)
  have Z1 := Nat.le_trans Z0 E1.1
  have sz_b1 : h0.size ≤ b1 := Nat.le_trans K00.1 (Nat.le_of_eq g1.symm)
  have K1 := K00.ext E1
  have f4 : OFv Z h1 b1 .null := D1 (Or.inr (w_21 hw)) (ty := (.array .byte)) (by decide)
  have f5 : OFc Z h1 b1 := D1 (Or.inr (w_22 hw)) (ty := .byte) (by decide)
  refine g_dup C X1 d22_10 11 rfl ?_
  refine g_aloadN C X1 d22_11 12 rfl rfl ?_
  refine g_iloadN C X1 d22_12 13 rfl ?_
  refine g_iloadN C X1 d22_13 14 rfl ?_
  refine g_iloadN C X1 d22_14 15 rfl ?_
  refine g_iadd C X1 d22_15 16 ?_
  rw [show (0 : Int32) + 2 = 2 from by decide]
  refine g_callS C X1 (w_102 hw) (w_103 hw) (w_104 hw) (w_105 hw) d22_16 [(.ref o1), (.int 0), (.int 2)] [(.ref b1), (.ref b1)] 2 (rm23_3_0_2 hw Z1 f3) pd_12 e1 19 (fun u6 T6 L6 X6 hQ6 => ?_)
  obtain ⟨o36, kd36, rfl, Nq6, szo36, Kq6, q6_0⟩ := hQ6
  have N6 := Fr.app N0 Nq6
  have n7 : b1 ≠ o36 := Nat.ne_of_lt (Nat.lt_of_lt_of_le A1.lt szo36)
  have f10 := A1.keep Kq6
  have f11 := f4.keep Kq6 nin0
  have f12 := f5.keep Kq6 nin0
  have Z6 := Nat.le_trans Z1 Kq6.1
  have sz_o36 : h0.size ≤ o36 := Nat.le_trans K1.1 szo36
  have K6 := K1.trans Kq6 all0
  refine ret1 ?_
  refine g_iconst C X6 d22_19 20 (v := 0) rfl ?_
  refine g_callI C X6 rfl (w_119 hw) (w_120 hw) (w_8 hw) (w_121 hw) d22_20 [(.ref o36), (.int 0)] [(.ref b1)] 1 (rm27 hw Z6 f10 f11 f12 gn_b1) pd_13 rfl 23 (fun u13 T13 L13 X13 hQ13 => ?_)
  obtain ⟨rfl, Nq13, Kq13, q13_0, q13_1, q13_2⟩ := hQ13
  have N13 := Fr.app N6 Nq13
  have f16 := q6_0.keep Kq13 (ninS (Ne.symm n7) nin0)
  have K13 := K6.trans Kq13 (allS (Or.inr sz_b1) all0)
  refine ret0 ?_
  exact g_retA C X13 K rfl rfl rfl d22_23 (by decide) (by decide) rfl ⟨b1, o36, kd36, rfl, N13, sz_b1, sz_o36, K13, q13_0, q13_1, q13_2, f16⟩
def Q9_3_0_2 (Z : State) (o1 : Addr) (o2 : Addr) (kd1 : ClassId) (c1 : Int32) (c2 : Int32) (c3 : Int32) (cs1 : Int32) (wf1 : Value) (h0 : Heap) (n0 : Nat) (v : Option Value) (h : Heap) (L : List Loc) : Prop := ∃ (o3 : Addr) (o4 : Addr) (kd3 : ClassId), v = some (.ref o3) ∧ Fr n0 L ∧ h0.size ≤ o3 ∧ h0.size ≤ o4 ∧ Keep h0 h [] ∧ OEs Z h o3 ∧ OFv Z h o3 (.ref o4) ∧ OFc Z h o3 ∧ Arv Z h o4 kd3 .byte 2 [(.int c1), (.int c2)] (.int 0)
theorem rm9_3_0_2 {o1 o2 : Addr} {kd1 : ClassId} {c1 c2 c3 cs1 : Int32} {wf1 : Value} (hw : OwnW a0 Z) (Z0 : n0 ≤ h0.size) (F0 : OEs Z h0 o1) (F1 : OFv Z h0 o1 (.ref o2)) (F2 : OFc Z h0 o1) (F3 : Arv Z h0 o2 kd1 .byte 3 [(.int c1), (.int c2), (.int c3)] (.int 0)) (F4 : OSc Z h0 cs1) (F5 : OSf Z h0 wf1) (hcs : ¬ cs1 = (0 : Int32)) (hwf : wf1.isRef = true) : OwnMF l Z y9 jdk_42_method_92_code 5 (some (.object "java/lang/String")) ws ⟨4, 2, 6, 64⟩ #[(.ref o1), (.int 0), (.int 2)] h0 (Q9_3_0_2 Z o1 o2 kd1 c1 c2 c3 cs1 wf1 h0 n0) := by
  refine bo (plainFor_of_name pn_2) ?_
  intro p e s m below meth c T0 G C hnm hnamed X0 e0 K
  have N0 := Fr.nil n0
  refine Goes.to (congrArg T0.setTop (ef_9rii m o1 (0 : Int32) (2 : Int32))) ?_
  have K00 := Keep.refl h0 []
  refine g_aloadN C X0 d9_0 1 rfl rfl ?_
  refine g_callV0 C X0 (b_6 hw) F0 d9_1 [] [] 0 (rm7_3 hw Z0 F0 F1 F2 F3 F4 hcs) N0 pd_6 e0 4 (fun T1 _ X1 N1 e1 => ?_)
  refine g_istoreN C X1 d9_4 5 (w := 3) rfl (ls' := #[rv o1, iv 0, iv 2, iv 3, uu]) rfl ?_
  refine g_iloadN C X1 d9_5 6 rfl ?_
  refine g_iloadN C X1 d9_6 7 rfl ?_
  refine g_iloadN C X1 d9_7 8 rfl ?_
  refine g_callSn C X1 (b_7 hw) d9_8 [(.int 0), (.int 2), (.int 3)] [] 0 (rm10 hw Z0 F5 hwf (by decide) (by decide) (by decide)) N1 pd_7 e1 11 (fun T2 _ X2 N2 e2 => ?_)
  refine g_iloadN C X2 d9_11 12 rfl ?_
  refine g_if_ne C X2 d9_12 22 15 (fun hc12 => absurd hc12 (by decide)) (fun hc12 => ?_)
  refine g_iloadN C X2 d9_15 16 rfl ?_
  refine g_iloadN C X2 d9_16 17 rfl ?_
  refine g_icmp_ne C X2 d9_17 22 20 (fun hc17 => ?_) (fun hc17 => absurd hc17 (by decide))
  refine g_iloadN C X2 d9_22 23 rfl ?_
  refine g_iloadN C X2 d9_23 24 rfl ?_
  refine g_isub C X2 d9_24 25 ?_
  rw [show (2 : Int32) - 0 = 2 from by decide]
  refine g_istore C X2 d9_25 27 (w := 2) rfl (ls' := #[rv o1, iv 0, iv 2, iv 3, iv 2]) rfl ?_
  refine g_aloadN C X2 d9_27 28 rfl rfl ?_
  refine g_callV0 C X2 (b_2 hw) F0 d9_28 [] [] 0 (rm17 hw Z0 F2 F4 hcs) N2 pd_2 e2 31 (fun T3 _ X3 N3 e3 => ?_)
  refine g_if_eq C X3 d9_31 47 34 (fun hc31 => absurd hc31 (by decide)) (fun hc31 => ?_)
  refine g_aloadN C X3 d9_34 35 rfl rfl ?_
  refine g_getF C X3 (w_25 hw) Via.refl e3 F1 d9_35 38 (fun T4 X4 e4 => ?_)
  refine g_iloadN C X4 d9_38 39 rfl ?_
  refine g_iload C X4 d9_39 41 rfl ?_
  refine g_callS C X4 (w_98 hw) (w_99 hw) (w_86 hw) (w_100 hw) d9_41 [(.ref o2), (.int 0), (.int 2)] [] 0 (rm22_3_0_2 hw Z0 F3) pd_14 e4 44 (fun u5 T5 L5 X5 hQ5 => ?_)
  obtain ⟨o35, o45, kd35, rfl, Nq5, szo35, szo45, Kq5, q5_0, q5_1, q5_2, q5_3⟩ := hQ5
  have N5 := Fr.app N3 Nq5
  have sz_o35 : h0.size ≤ o35 := Nat.le_trans K00.1 szo35
  have sz_o45 : h0.size ≤ o45 := Nat.le_trans K00.1 szo45
  have K5 := K00.trans Kq5 all0
  refine ret1 ?_
  refine g_goto C X5 d9_44 57 ?_
  exact g_retA C X5 K rfl rfl rfl d9_57 (by decide) (by decide) rfl ⟨o35, o45, kd35, rfl, N5, sz_o35, sz_o45, K5, q5_0, q5_1, q5_2, q5_3⟩
def Q6_3_0_2 (Z : State) (o1 : Addr) (o2 : Addr) (kd1 : ClassId) (c1 : Int32) (c2 : Int32) (c3 : Int32) (cs1 : Int32) (wf1 : Value) (h0 : Heap) (n0 : Nat) (v : Option Value) (h : Heap) (L : List Loc) : Prop := ∃ (o3 : Addr) (o4 : Addr) (kd3 : ClassId), v = some (.ref o3) ∧ Fr n0 L ∧ h0.size ≤ o3 ∧ h0.size ≤ o4 ∧ Keep h0 h [] ∧ OEs Z h o3 ∧ OFv Z h o3 (.ref o4) ∧ OFc Z h o3 ∧ Arv Z h o4 kd3 .byte 2 [(.int c1), (.int c2)] (.int 0)
theorem rm6_3_0_2 {o1 o2 : Addr} {kd1 : ClassId} {c1 c2 c3 cs1 : Int32} {wf1 : Value} (hw : OwnW a0 Z) (Z0 : n0 ≤ h0.size) (F0 : OEs Z h0 o1) (F1 : OFv Z h0 o1 (.ref o2)) (F2 : OFc Z h0 o1) (F3 : Arv Z h0 o2 kd1 .byte 3 [(.int c1), (.int c2), (.int c3)] (.int 0)) (F4 : OSc Z h0 cs1) (F5 : OSf Z h0 wf1) (hcs : ¬ cs1 = (0 : Int32)) (hwf : wf1.isRef = true) (hs1 : fIs (own_ch c1) = (0 : Int32)) (hs2 : fIs (own_ch c2) = (0 : Int32)) (hs3 : ¬ fIs (own_ch c3) = (0 : Int32)) : OwnMF l Z y6 prog_35_method_2_code 3 (some (.object "java/lang/String")) ws ⟨5, 2, 6, 80⟩ #[(.ref o1)] h0 (Q6_3_0_2 Z o1 o2 kd1 c1 c2 c3 cs1 wf1 h0 n0) := by
  refine bo (plainFor_of_name pn_6) ?_
  intro p e s m below meth c T0 G C hnm hnamed X0 e0 K
  have N0 := Fr.nil n0
  refine Goes.to (congrArg T0.setTop (ef_6r m o1)) ?_
  have K00 := Keep.refl h0 []
  refine g_iconst C X0 d6_0 1 (v := 0) rfl ?_
  refine g_istoreN C X0 d6_1 2 (w := 0) rfl (ls' := #[rv o1, iv 0, uu]) rfl ?_
  refine g_aloadN C X0 d6_2 3 rfl rfl ?_
  refine g_callV0 C X0 (b_8 hw) F0 d6_3 [] [] 0 (rm7_3 hw Z0 F0 F1 F2 F3 F4 hcs) N0 pd_6 e0 6 (fun T1 _ X1 N1 e1 => ?_)
  refine g_istoreN C X1 d6_6 7 (w := 3) rfl (ls' := #[rv o1, iv 0, iv 3]) rfl ?_
  refine g_iloadN C X1 d6_7 8 rfl ?_
  refine g_iloadN C X1 d6_8 9 rfl ?_
  refine g_icmp_ge C X1 d6_9 29 12 (fun hc9 => absurd hc9 (by decide)) (fun hc9 => ?_)
  refine g_aloadN C X1 d6_12 13 rfl rfl ?_
  refine g_iloadN C X1 d6_13 14 rfl ?_
  refine g_callV0 C X1 (b_10 hw) F0 d6_14 [(.int 0)] [] 0 (rm16_3_0 hw Z0 F0 F1 F2 F3 F4 F5 hcs hwf) N1 pd_9 e1 17 (fun T2 _ X2 N2 e2 => ?_)
  refine g_callS0 C X2 (b_11 hw) d6_17 [(.int (own_ch c1))] [] 0 (rm21 hw Z0) N2 pd_10 e2 20 (fun T3 _ X3 N3 e3 => ?_)
  refine g_if_eq C X3 d6_20 29 23 (fun hc20 => ?_) (fun hc20 => absurd hs1 hc20)
  refine g_iloadN C X3 d6_29 30 rfl ?_
  refine g_iloadN C X3 d6_30 31 rfl ?_
  refine g_icmp_le C X3 d6_31 53 34 (fun hc31 => absurd hc31 (by decide)) (fun hc31 => ?_)
  refine g_aloadN C X3 d6_34 35 rfl rfl ?_
  refine g_iloadN C X3 d6_35 36 rfl ?_
  refine g_iconst C X3 d6_36 37 (v := 1) rfl ?_
  refine g_isub C X3 d6_37 38 ?_
  rw [show (3 : Int32) - 1 = 2 from by decide]
  refine g_callV0 C X3 (b_10 hw) F0 d6_38 [(.int 2)] [] 0 (rm16_3_2 hw Z0 F0 F1 F2 F3 F4 F5 hcs hwf) N3 pd_9 e3 41 (fun T4 _ X4 N4 e4 => ?_)
  refine g_callS0 C X4 (b_11 hw) d6_41 [(.int (own_ch c3))] [] 0 (rm21 hw Z0) N4 pd_10 e4 44 (fun T5 _ X5 N5 e5 => ?_)
  refine g_if_eq C X5 d6_44 53 47 (fun hc44 => absurd hc44 hs3) (fun hc44 => ?_)
  refine g_iinc C X5 d6_47 50 rfl (w := 2) rfl (ls' := #[rv o1, iv 0, iv 2]) rfl ?_
  refine g_goto C X5 d6_50 29 ?_
  refine g_iloadN C X5 d6_29 30 rfl ?_
  refine g_iloadN C X5 d6_30 31 rfl ?_
  refine g_icmp_le C X5 d6_31 53 34 (fun hc31 => absurd hc31 (by decide)) (fun hc31 => ?_)
  refine g_aloadN C X5 d6_34 35 rfl rfl ?_
  refine g_iloadN C X5 d6_35 36 rfl ?_
  refine g_iconst C X5 d6_36 37 (v := 1) rfl ?_
  refine g_isub C X5 d6_37 38 ?_
  rw [show (2 : Int32) - 1 = 1 from by decide]
  refine g_callV0 C X5 (b_10 hw) F0 d6_38 [(.int 1)] [] 0 (rm16_3_1 hw Z0 F0 F1 F2 F3 F4 F5 hcs hwf) N5 pd_9 e5 41 (fun T6 _ X6 N6 e6 => ?_)
  refine g_callS0 C X6 (b_11 hw) d6_41 [(.int (own_ch c2))] [] 0 (rm21 hw Z0) N6 pd_10 e6 44 (fun T7 _ X7 N7 e7 => ?_)
  refine g_if_eq C X7 d6_44 53 47 (fun hc44 => ?_) (fun hc44 => absurd hs2 hc44)
  refine g_aloadN C X7 d6_53 54 rfl rfl ?_
  refine g_iloadN C X7 d6_54 55 rfl ?_
  refine g_iloadN C X7 d6_55 56 rfl ?_
  refine g_callV C X7 (w_46 hw) (w_47 hw) (notFace_of_selects (args := #[]) (mvT C.2.1 (w_49 hw))) (w_49 hw) (w_48 hw) (w_50 hw) (w_8 hw) F0 d6_56 [(.int 0), (.int 2)] [] 0 (rm9_3_0_2 hw Z0 F0 F1 F2 F3 F4 F5 hcs hwf) pd_8 e7 59 (fun u8 T8 L8 X8 hQ8 => ?_)
  obtain ⟨o38, o48, kd38, rfl, Nq8, szo38, szo48, Kq8, q8_0, q8_1, q8_2, q8_3⟩ := hQ8
  have N8 := Fr.app N7 Nq8
  have sz_o38 : h0.size ≤ o38 := Nat.le_trans K00.1 szo38
  have sz_o48 : h0.size ≤ o48 := Nat.le_trans K00.1 szo48
  have K8 := K00.trans Kq8 all0
  refine ret1 ?_
  exact g_retA C X8 K rfl rfl rfl d6_59 (by decide) (by decide) rfl ⟨o38, o48, kd38, rfl, N8, sz_o38, sz_o48, K8, q8_0, q8_1, q8_2, q8_3⟩
theorem rm9_3_0_3 {o1 o2 : Addr} {kd1 : ClassId} {c1 c2 c3 cs1 : Int32} {wf1 : Value} (hw : OwnW a0 Z) (Z0 : n0 ≤ h0.size) (F0 : OEs Z h0 o1) (F1 : OFv Z h0 o1 (.ref o2)) (F2 : OFc Z h0 o1) (F3 : Arv Z h0 o2 kd1 .byte 3 [(.int c1), (.int c2), (.int c3)] (.int 0)) (F4 : OSc Z h0 cs1) (F5 : OSf Z h0 wf1) (hcs : ¬ cs1 = (0 : Int32)) (hwf : wf1.isRef = true) : OwnMF l Z y9 jdk_42_method_92_code 5 (some (.object "java/lang/String")) ws ⟨2, 0, 0, 29⟩ #[(.ref o1), (.int 0), (.int 3)] h0 (OwnQ (some (.ref o1)) h0 n0) := by
  refine bo (plainFor_of_name pn_2) ?_
  intro p e s m below meth c T0 G C hnm hnamed X0 e0 K
  have N0 := Fr.nil n0
  refine Goes.to (congrArg T0.setTop (ef_9rii m o1 (0 : Int32) (3 : Int32))) ?_
  refine g_aloadN C X0 d9_0 1 rfl rfl ?_
  refine g_callV0 C X0 (b_6 hw) F0 d9_1 [] [] 0 (rm7_3 hw Z0 F0 F1 F2 F3 F4 hcs) N0 pd_6 e0 4 (fun T1 _ X1 N1 e1 => ?_)
  refine g_istoreN C X1 d9_4 5 (w := 3) rfl (ls' := #[rv o1, iv 0, iv 3, iv 3, uu]) rfl ?_
  refine g_iloadN C X1 d9_5 6 rfl ?_
  refine g_iloadN C X1 d9_6 7 rfl ?_
  refine g_iloadN C X1 d9_7 8 rfl ?_
  refine g_callSn C X1 (b_7 hw) d9_8 [(.int 0), (.int 3), (.int 3)] [] 0 (rm10 hw Z0 F5 hwf (by decide) (by decide) (by decide)) N1 pd_7 e1 11 (fun T2 _ X2 N2 e2 => ?_)
  refine g_iloadN C X2 d9_11 12 rfl ?_
  refine g_if_ne C X2 d9_12 22 15 (fun hc12 => absurd hc12 (by decide)) (fun hc12 => ?_)
  refine g_iloadN C X2 d9_15 16 rfl ?_
  refine g_iloadN C X2 d9_16 17 rfl ?_
  refine g_icmp_ne C X2 d9_17 22 20 (fun hc17 => absurd hc17 (by decide)) (fun hc17 => ?_)
  refine g_aloadN C X2 d9_20 21 rfl rfl ?_
  exact g_retA C X2 K rfl rfl rfl d9_21 (by decide) (by decide) e2 ⟨rfl, N2, rfl⟩
theorem rm6_3_0_3 {o1 o2 : Addr} {kd1 : ClassId} {c1 c2 c3 cs1 : Int32} {wf1 : Value} (hw : OwnW a0 Z) (Z0 : n0 ≤ h0.size) (F0 : OEs Z h0 o1) (F1 : OFv Z h0 o1 (.ref o2)) (F2 : OFc Z h0 o1) (F3 : Arv Z h0 o2 kd1 .byte 3 [(.int c1), (.int c2), (.int c3)] (.int 0)) (F4 : OSc Z h0 cs1) (F5 : OSf Z h0 wf1) (hcs : ¬ cs1 = (0 : Int32)) (hwf : wf1.isRef = true) (hs1 : fIs (own_ch c1) = (0 : Int32)) (hs3 : fIs (own_ch c3) = (0 : Int32)) : OwnMF l Z y6 prog_35_method_2_code 3 (some (.object "java/lang/String")) ws ⟨4, 0, 0, 53⟩ #[(.ref o1)] h0 (OwnQ (some (.ref o1)) h0 n0) := by
  refine bo (plainFor_of_name pn_6) ?_
  intro p e s m below meth c T0 G C hnm hnamed X0 e0 K
  have N0 := Fr.nil n0
  refine Goes.to (congrArg T0.setTop (ef_6r m o1)) ?_
  refine g_iconst C X0 d6_0 1 (v := 0) rfl ?_
  refine g_istoreN C X0 d6_1 2 (w := 0) rfl (ls' := #[rv o1, iv 0, uu]) rfl ?_
  refine g_aloadN C X0 d6_2 3 rfl rfl ?_
  refine g_callV0 C X0 (b_8 hw) F0 d6_3 [] [] 0 (rm7_3 hw Z0 F0 F1 F2 F3 F4 hcs) N0 pd_6 e0 6 (fun T1 _ X1 N1 e1 => ?_)
  refine g_istoreN C X1 d6_6 7 (w := 3) rfl (ls' := #[rv o1, iv 0, iv 3]) rfl ?_
  refine g_iloadN C X1 d6_7 8 rfl ?_
  refine g_iloadN C X1 d6_8 9 rfl ?_
  refine g_icmp_ge C X1 d6_9 29 12 (fun hc9 => absurd hc9 (by decide)) (fun hc9 => ?_)
  refine g_aloadN C X1 d6_12 13 rfl rfl ?_
  refine g_iloadN C X1 d6_13 14 rfl ?_
  refine g_callV0 C X1 (b_10 hw) F0 d6_14 [(.int 0)] [] 0 (rm16_3_0 hw Z0 F0 F1 F2 F3 F4 F5 hcs hwf) N1 pd_9 e1 17 (fun T2 _ X2 N2 e2 => ?_)
  refine g_callS0 C X2 (b_11 hw) d6_17 [(.int (own_ch c1))] [] 0 (rm21 hw Z0) N2 pd_10 e2 20 (fun T3 _ X3 N3 e3 => ?_)
  refine g_if_eq C X3 d6_20 29 23 (fun hc20 => ?_) (fun hc20 => absurd hs1 hc20)
  refine g_iloadN C X3 d6_29 30 rfl ?_
  refine g_iloadN C X3 d6_30 31 rfl ?_
  refine g_icmp_le C X3 d6_31 53 34 (fun hc31 => absurd hc31 (by decide)) (fun hc31 => ?_)
  refine g_aloadN C X3 d6_34 35 rfl rfl ?_
  refine g_iloadN C X3 d6_35 36 rfl ?_
  refine g_iconst C X3 d6_36 37 (v := 1) rfl ?_
  refine g_isub C X3 d6_37 38 ?_
  rw [show (3 : Int32) - 1 = 2 from by decide]
  refine g_callV0 C X3 (b_10 hw) F0 d6_38 [(.int 2)] [] 0 (rm16_3_2 hw Z0 F0 F1 F2 F3 F4 F5 hcs hwf) N3 pd_9 e3 41 (fun T4 _ X4 N4 e4 => ?_)
  refine g_callS0 C X4 (b_11 hw) d6_41 [(.int (own_ch c3))] [] 0 (rm21 hw Z0) N4 pd_10 e4 44 (fun T5 _ X5 N5 e5 => ?_)
  refine g_if_eq C X5 d6_44 53 47 (fun hc44 => ?_) (fun hc44 => absurd hs3 hc44)
  refine g_aloadN C X5 d6_53 54 rfl rfl ?_
  refine g_iloadN C X5 d6_54 55 rfl ?_
  refine g_iloadN C X5 d6_55 56 rfl ?_
  refine g_callV0 C X5 (b_9 hw) F0 d6_56 [(.int 0), (.int 3)] [] 0 (rm9_3_0_3 hw Z0 F0 F1 F2 F3 F4 F5 hcs hwf) N5 pd_8 e5 59 (fun T6 _ X6 N6 e6 => ?_)
  exact g_retA C X6 K rfl rfl rfl d6_59 (by decide) (by decide) e6 ⟨rfl, N6, rfl⟩
def Q24_3_1_2 (Z : State) (o1 : Addr) (kd1 : ClassId) (c1 : Int32) (c2 : Int32) (c3 : Int32) (h0 : Heap) (n0 : Nat) (v : Option Value) (h : Heap) (L : List Loc) : Prop := ∃ (o3 : Addr) (kd3 : ClassId), v = some (.ref o3) ∧ Fr n0 L ∧ h0.size ≤ o3 ∧ Keep h0 h [] ∧ Arv Z h o3 kd3 .byte 1 [(.int c2)] (.int 0)
theorem rm24_3_1_2 {o1 : Addr} {kd1 : ClassId} {c1 c2 c3 : Int32} (hw : OwnW a0 Z) (Z0 : n0 ≤ h0.size) (F0 : Arv Z h0 o1 kd1 .byte 3 [(.int c1), (.int c2), (.int c3)] (.int 0)) : OwnMF l Z y24 jdk_65_method_133_code 5 (some (.array .byte)) ws ⟨1, 1, 1, 18⟩ #[(.ref o1), (.int 1), (.int 2)] h0 (Q24_3_1_2 Z o1 kd1 c1 c2 c3 h0 n0) := by
  refine bo (plainFor_of_name pn_23) ?_
  intro p e s m below meth c T0 G C hnm hnamed X0 e0 K
  have N0 := Fr.nil n0
  refine Goes.to (congrArg T0.setTop (ef_24rii m o1 (1 : Int32) (2 : Int32))) ?_
  have K00 := Keep.refl h0 []
  refine g_iloadN C X0 d24_0 1 rfl ?_
  refine g_iloadN C X0 d24_1 2 rfl ?_
  refine g_callSn C X0 (b_12 hw) d24_2 [(.int 1), (.int 2)] [] 0 (rm25_1_2 hw Z0 ) N0 pd_1 e0 5 (fun T1 _ X1 N1 e1 => ?_)
  refine g_iloadN C X1 d24_5 6 rfl ?_
  refine g_iloadN C X1 d24_6 7 rfl ?_
  refine g_isub C X1 d24_7 8 ?_
  rw [show (2 : Int32) - 1 = 1 from by decide]
  refine g_istoreN C X1 d24_8 9 (w := 1) rfl (ls' := #[rv o1, iv 1, iv 2, iv 1, uu]) rfl ?_
  refine g_iloadN C X1 d24_9 10 rfl ?_
  refine g_newA (aty := .byte) (n := (1 : Int32)) C X1 (cap := 1) (w_20 hw) e1 d24_10 12 (by decide) (by decide) (by decide) (by decide) (by decide) (fun T2 h2 b2 ki2 X2 e2 g2 E2 A2 => ?_)
  have f4 := F0.ext E2
  have gn_b2 : n0 ≤ b2 := Nat.le_trans Z0 (Nat.le_of_eq g2.symm)
  have Z2 := Nat.le_trans Z0 E2.1
  have sz_b2 : h0.size ≤ b2 := Nat.le_trans K00.1 (Nat.le_of_eq g2.symm)
  have K2 := K00.ext E2
  have f5 : Arv Z h2 b2 ki2 .byte 1 [(.int 0)] (.int 0) := A2.pad (pad_rep [] (.int 0) 1)
  refine g_astore C X2 d24_12 14 rfl (ls' := #[rv o1, iv 1, iv 2, iv 1, rv b2]) rfl ?_
  refine g_aloadN C X2 d24_14 15 rfl rfl ?_
  refine g_iloadN C X2 d24_15 16 rfl ?_
  refine g_aload C X2 d24_16 18 rfl rfl ?_
  refine g_iconst C X2 d24_18 19 (v := 0) rfl ?_
  refine g_aloadN C X2 d24_19 20 rfl rfl ?_
  refine g_arraylength C X2 e2 f4 d24_20 21 ?_
  refine g_iloadN C X2 d24_21 22 rfl ?_
  refine g_isub C X2 d24_22 23 ?_
  rw [show (3 : Int32) - 1 = 2 from by decide]
  refine g_iloadN C X2 d24_23 24 rfl ?_
  refine g_callS0 C X2 (b_13 hw) d24_24 [(.int 2), (.int 1)] [(.int 0), (.ref b2), (.int 1), (.ref o1)] 4 (rm26 hw Z2) N1 pd_11 e2 27 (fun T6 _ X6 N6 e6 => ?_)
  rw [show fMin (2 : Int32) (1 : Int32) = (1 : Int32) from by decide]
  refine g_acopy C X6 (us := [(.int c2)]) (ur := [(.int c2)]) (w_115 hw) (w_118 hw) (w_116 hw) (w_117 hw) e6 f4 f5 rfl (by decide) (by decide) (by decide) (by decide) (by decide) rfl (by simp; try decide) rfl N6 gn_b2 rfl d24_27 30 (by decide) (W := 0) (Nat.le_of_eq rfl) (by decide) (fun T7 h7 L7 X7 e7 N7 Kq7 V7 => ?_)
  have K7 := K2.trans Kq7 (allS (Or.inr sz_b2) all0)
  refine g_aload C X7 d24_30 32 rfl rfl ?_
  exact g_retA C X7 K rfl rfl rfl d24_32 (by decide) (by decide) e7 ⟨b2, ki2, rfl, N7, sz_b2, K7, V7⟩
def Q23_3_1_2 (Z : State) (o1 : Addr) (kd1 : ClassId) (c1 : Int32) (c2 : Int32) (c3 : Int32) (h0 : Heap) (n0 : Nat) (v : Option Value) (h : Heap) (L : List Loc) : Prop := ∃ (o3 : Addr) (kd3 : ClassId), v = some (.ref o3) ∧ Fr n0 L ∧ h0.size ≤ o3 ∧ Keep h0 h [] ∧ Arv Z h o3 kd3 .byte 1 [(.int c2)] (.int 0)
theorem rm23_3_1_2 {o1 : Addr} {kd1 : ClassId} {c1 c2 c3 : Int32} (hw : OwnW a0 Z) (Z0 : n0 ≤ h0.size) (F0 : Arv Z h0 o1 kd1 .byte 3 [(.int c1), (.int c2), (.int c3)] (.int 0)) : OwnMF l Z y23 jdk_65_method_132_code 3 (some (.array .byte)) ws ⟨2, 1, 1, 34⟩ #[(.ref o1), (.int 1), (.int 2)] h0 (Q23_3_1_2 Z o1 kd1 c1 c2 c3 h0 n0) := by
  refine bo (plainFor_of_name pn_23) ?_
  intro p e s m below meth c T0 G C hnm hnamed X0 e0 K
  have N0 := Fr.nil n0
  refine Goes.to (congrArg T0.setTop (ef_23rii m o1 (1 : Int32) (2 : Int32))) ?_
  have K00 := Keep.refl h0 []
  refine g_iloadN C X0 d23_0 1 rfl ?_
  refine g_if_ne C X0 d23_1 10 4 (fun hc1 => ?_) (fun hc1 => absurd hc1 (by decide))
  refine g_aloadN C X0 d23_10 11 rfl rfl ?_
  refine g_iloadN C X0 d23_11 12 rfl ?_
  refine g_iloadN C X0 d23_12 13 rfl ?_
  refine g_callS C X0 (w_106 hw) (w_107 hw) (w_104 hw) (w_108 hw) d23_13 [(.ref o1), (.int 1), (.int 2)] [] 0 (rm24_3_1_2 hw Z0 F0) pd_12 e0 16 (fun u1 T1 L1 X1 hQ1 => ?_)
  obtain ⟨o31, kd31, rfl, Nq1, szo31, Kq1, q1_0⟩ := hQ1
  have N1 := Fr.app N0 Nq1
  have sz_o31 : h0.size ≤ o31 := Nat.le_trans K00.1 szo31
  have K1 := K00.trans Kq1 all0
  refine ret1 ?_
  exact g_retA C X1 K rfl rfl rfl d23_16 (by decide) (by decide) rfl ⟨o31, kd31, rfl, N1, sz_o31, K1, q1_0⟩
def Q22_3_1_1 (Z : State) (o1 : Addr) (kd1 : ClassId) (c1 : Int32) (c2 : Int32) (c3 : Int32) (h0 : Heap) (n0 : Nat) (v : Option Value) (h : Heap) (L : List Loc) : Prop := ∃ (o3 : Addr) (o4 : Addr) (kd3 : ClassId), v = some (.ref o3) ∧ Fr n0 L ∧ h0.size ≤ o3 ∧ h0.size ≤ o4 ∧ Keep h0 h [] ∧ OEs Z h o3 ∧ OFv Z h o3 (.ref o4) ∧ OFc Z h o3 ∧ Arv Z h o4 kd3 .byte 1 [(.int c2)] (.int 0)
theorem rm22_3_1_1 {o1 : Addr} {kd1 : ClassId} {c1 c2 c3 : Int32} (hw : OwnW a0 Z) (Z0 : n0 ≤ h0.size) (F0 : Arv Z h0 o1 kd1 .byte 3 [(.int c1), (.int c2), (.int c3)] (.int 0)) : OwnMF l Z y22 jdk_43_method_47_code 3 (some (.object "java/lang/String")) ws ⟨3, 2, 5, 50⟩ #[(.ref o1), (.int 1), (.int 1)] h0 (Q22_3_1_1 Z o1 kd1 c1 c2 c3 h0 n0) := by
  refine bo (plainFor_of_name pn_18) ?_
  intro p e s m below meth c T0 G C hnm hnamed X0 e0 K
  have N0 := Fr.nil n0
  refine Goes.to (congrArg T0.setTop (ef_22rii m o1 (1 : Int32) (1 : Int32))) ?_
  have K00 := Keep.refl h0 []
  refine g_iloadN C X0 d22_0 1 rfl ?_
  refine g_if_ne C X0 d22_1 7 4 (fun hc1 => ?_) (fun hc1 => absurd hc1 (by decide))
  refine g_new C X0 (w_101 hw) (w_7 hw) (w_8 hw) e0 d22_7 10 (by decide) (by decide) (fun T1 h1 b1 X1 e1 g1 E1 A1 D1 => ?_)
  have f3 := F0.ext E1
  have gn_b1 : n0 ≤ b1 := Nat.le_trans Z0 (Nat.le_of_eq g1.symm)
  have Z1 := Nat.le_trans Z0 E1.1
  have sz_b1 : h0.size ≤ b1 := Nat.le_trans K00.1 (Nat.le_of_eq g1.symm)
  have K1 := K00.ext E1
  have f4 : OFv Z h1 b1 .null := D1 (Or.inr (w_21 hw)) (ty := (.array .byte)) (by decide)
  have f5 : OFc Z h1 b1 := D1 (Or.inr (w_22 hw)) (ty := .byte) (by decide)
  refine g_dup C X1 d22_10 11 rfl ?_
  refine g_aloadN C X1 d22_11 12 rfl rfl ?_
  refine g_iloadN C X1 d22_12 13 rfl ?_
  refine g_iloadN C X1 d22_13 14 rfl ?_
  refine g_iloadN C X1 d22_14 15 rfl ?_
  refine g_iadd C X1 d22_15 16 ?_
  rw [show (1 : Int32) + 1 = 2 from by decide]
  refine g_callS C X1 (w_102 hw) (w_103 hw) (w_104 hw) (w_105 hw) d22_16 [(.ref o1), (.int 1), (.int 2)] [(.ref b1), (.ref b1)] 2 (rm23_3_1_2 hw Z1 f3) pd_12 e1 19 (fun u6 T6 L6 X6 hQ6 => ?_)
  obtain ⟨o36, kd36, rfl, Nq6, szo36, Kq6, q6_0⟩ := hQ6
  have N6 := Fr.app N0 Nq6
  have n7 : b1 ≠ o36 := Nat.ne_of_lt (Nat.lt_of_lt_of_le A1.lt szo36)
  have f10 := A1.keep Kq6
  have f11 := f4.keep Kq6 nin0
  have f12 := f5.keep Kq6 nin0
  have Z6 := Nat.le_trans Z1 Kq6.1
  have sz_o36 : h0.size ≤ o36 := Nat.le_trans K1.1 szo36
  have K6 := K1.trans Kq6 all0
  refine ret1 ?_
  refine g_iconst C X6 d22_19 20 (v := 0) rfl ?_
  refine g_callI C X6 rfl (w_119 hw) (w_120 hw) (w_8 hw) (w_121 hw) d22_20 [(.ref o36), (.int 0)] [(.ref b1)] 1 (rm27 hw Z6 f10 f11 f12 gn_b1) pd_13 rfl 23 (fun u13 T13 L13 X13 hQ13 => ?_)
  obtain ⟨rfl, Nq13, Kq13, q13_0, q13_1, q13_2⟩ := hQ13
  have N13 := Fr.app N6 Nq13
  have f16 := q6_0.keep Kq13 (ninS (Ne.symm n7) nin0)
  have K13 := K6.trans Kq13 (allS (Or.inr sz_b1) all0)
  refine ret0 ?_
  exact g_retA C X13 K rfl rfl rfl d22_23 (by decide) (by decide) rfl ⟨b1, o36, kd36, rfl, N13, sz_b1, sz_o36, K13, q13_0, q13_1, q13_2, f16⟩
def Q9_3_1_2 (Z : State) (o1 : Addr) (o2 : Addr) (kd1 : ClassId) (c1 : Int32) (c2 : Int32) (c3 : Int32) (cs1 : Int32) (wf1 : Value) (h0 : Heap) (n0 : Nat) (v : Option Value) (h : Heap) (L : List Loc) : Prop := ∃ (o3 : Addr) (o4 : Addr) (kd3 : ClassId), v = some (.ref o3) ∧ Fr n0 L ∧ h0.size ≤ o3 ∧ h0.size ≤ o4 ∧ Keep h0 h [] ∧ OEs Z h o3 ∧ OFv Z h o3 (.ref o4) ∧ OFc Z h o3 ∧ Arv Z h o4 kd3 .byte 1 [(.int c2)] (.int 0)
theorem rm9_3_1_2 {o1 o2 : Addr} {kd1 : ClassId} {c1 c2 c3 cs1 : Int32} {wf1 : Value} (hw : OwnW a0 Z) (Z0 : n0 ≤ h0.size) (F0 : OEs Z h0 o1) (F1 : OFv Z h0 o1 (.ref o2)) (F2 : OFc Z h0 o1) (F3 : Arv Z h0 o2 kd1 .byte 3 [(.int c1), (.int c2), (.int c3)] (.int 0)) (F4 : OSc Z h0 cs1) (F5 : OSf Z h0 wf1) (hcs : ¬ cs1 = (0 : Int32)) (hwf : wf1.isRef = true) : OwnMF l Z y9 jdk_42_method_92_code 5 (some (.object "java/lang/String")) ws ⟨4, 2, 5, 64⟩ #[(.ref o1), (.int 1), (.int 2)] h0 (Q9_3_1_2 Z o1 o2 kd1 c1 c2 c3 cs1 wf1 h0 n0) := by
  refine bo (plainFor_of_name pn_2) ?_
  intro p e s m below meth c T0 G C hnm hnamed X0 e0 K
  have N0 := Fr.nil n0
  refine Goes.to (congrArg T0.setTop (ef_9rii m o1 (1 : Int32) (2 : Int32))) ?_
  have K00 := Keep.refl h0 []
  refine g_aloadN C X0 d9_0 1 rfl rfl ?_
  refine g_callV0 C X0 (b_6 hw) F0 d9_1 [] [] 0 (rm7_3 hw Z0 F0 F1 F2 F3 F4 hcs) N0 pd_6 e0 4 (fun T1 _ X1 N1 e1 => ?_)
  refine g_istoreN C X1 d9_4 5 (w := 3) rfl (ls' := #[rv o1, iv 1, iv 2, iv 3, uu]) rfl ?_
  refine g_iloadN C X1 d9_5 6 rfl ?_
  refine g_iloadN C X1 d9_6 7 rfl ?_
  refine g_iloadN C X1 d9_7 8 rfl ?_
  refine g_callSn C X1 (b_7 hw) d9_8 [(.int 1), (.int 2), (.int 3)] [] 0 (rm10 hw Z0 F5 hwf (by decide) (by decide) (by decide)) N1 pd_7 e1 11 (fun T2 _ X2 N2 e2 => ?_)
  refine g_iloadN C X2 d9_11 12 rfl ?_
  refine g_if_ne C X2 d9_12 22 15 (fun hc12 => ?_) (fun hc12 => absurd hc12 (by decide))
  refine g_iloadN C X2 d9_22 23 rfl ?_
  refine g_iloadN C X2 d9_23 24 rfl ?_
  refine g_isub C X2 d9_24 25 ?_
  rw [show (2 : Int32) - 1 = 1 from by decide]
  refine g_istore C X2 d9_25 27 (w := 1) rfl (ls' := #[rv o1, iv 1, iv 2, iv 3, iv 1]) rfl ?_
  refine g_aloadN C X2 d9_27 28 rfl rfl ?_
  refine g_callV0 C X2 (b_2 hw) F0 d9_28 [] [] 0 (rm17 hw Z0 F2 F4 hcs) N2 pd_2 e2 31 (fun T3 _ X3 N3 e3 => ?_)
  refine g_if_eq C X3 d9_31 47 34 (fun hc31 => absurd hc31 (by decide)) (fun hc31 => ?_)
  refine g_aloadN C X3 d9_34 35 rfl rfl ?_
  refine g_getF C X3 (w_25 hw) Via.refl e3 F1 d9_35 38 (fun T4 X4 e4 => ?_)
  refine g_iloadN C X4 d9_38 39 rfl ?_
  refine g_iload C X4 d9_39 41 rfl ?_
  refine g_callS C X4 (w_98 hw) (w_99 hw) (w_86 hw) (w_100 hw) d9_41 [(.ref o2), (.int 1), (.int 1)] [] 0 (rm22_3_1_1 hw Z0 F3) pd_14 e4 44 (fun u5 T5 L5 X5 hQ5 => ?_)
  obtain ⟨o35, o45, kd35, rfl, Nq5, szo35, szo45, Kq5, q5_0, q5_1, q5_2, q5_3⟩ := hQ5
  have N5 := Fr.app N3 Nq5
  have sz_o35 : h0.size ≤ o35 := Nat.le_trans K00.1 szo35
  have sz_o45 : h0.size ≤ o45 := Nat.le_trans K00.1 szo45
  have K5 := K00.trans Kq5 all0
  refine ret1 ?_
  refine g_goto C X5 d9_44 57 ?_
  exact g_retA C X5 K rfl rfl rfl d9_57 (by decide) (by decide) rfl ⟨o35, o45, kd35, rfl, N5, sz_o35, sz_o45, K5, q5_0, q5_1, q5_2, q5_3⟩
def Q6_3_1_2 (Z : State) (o1 : Addr) (o2 : Addr) (kd1 : ClassId) (c1 : Int32) (c2 : Int32) (c3 : Int32) (cs1 : Int32) (wf1 : Value) (h0 : Heap) (n0 : Nat) (v : Option Value) (h : Heap) (L : List Loc) : Prop := ∃ (o3 : Addr) (o4 : Addr) (kd3 : ClassId), v = some (.ref o3) ∧ Fr n0 L ∧ h0.size ≤ o3 ∧ h0.size ≤ o4 ∧ Keep h0 h [] ∧ OEs Z h o3 ∧ OFv Z h o3 (.ref o4) ∧ OFc Z h o3 ∧ Arv Z h o4 kd3 .byte 1 [(.int c2)] (.int 0)
theorem rm6_3_1_2 {o1 o2 : Addr} {kd1 : ClassId} {c1 c2 c3 cs1 : Int32} {wf1 : Value} (hw : OwnW a0 Z) (Z0 : n0 ≤ h0.size) (F0 : OEs Z h0 o1) (F1 : OFv Z h0 o1 (.ref o2)) (F2 : OFc Z h0 o1) (F3 : Arv Z h0 o2 kd1 .byte 3 [(.int c1), (.int c2), (.int c3)] (.int 0)) (F4 : OSc Z h0 cs1) (F5 : OSf Z h0 wf1) (hcs : ¬ cs1 = (0 : Int32)) (hwf : wf1.isRef = true) (hs1 : ¬ fIs (own_ch c1) = (0 : Int32)) (hs2 : fIs (own_ch c2) = (0 : Int32)) (hs3 : ¬ fIs (own_ch c3) = (0 : Int32)) : OwnMF l Z y6 prog_35_method_2_code 3 (some (.object "java/lang/String")) ws ⟨5, 2, 5, 80⟩ #[(.ref o1)] h0 (Q6_3_1_2 Z o1 o2 kd1 c1 c2 c3 cs1 wf1 h0 n0) := by
  refine bo (plainFor_of_name pn_6) ?_
  intro p e s m below meth c T0 G C hnm hnamed X0 e0 K
  have N0 := Fr.nil n0
  refine Goes.to (congrArg T0.setTop (ef_6r m o1)) ?_
  have K00 := Keep.refl h0 []
  refine g_iconst C X0 d6_0 1 (v := 0) rfl ?_
  refine g_istoreN C X0 d6_1 2 (w := 0) rfl (ls' := #[rv o1, iv 0, uu]) rfl ?_
  refine g_aloadN C X0 d6_2 3 rfl rfl ?_
  refine g_callV0 C X0 (b_8 hw) F0 d6_3 [] [] 0 (rm7_3 hw Z0 F0 F1 F2 F3 F4 hcs) N0 pd_6 e0 6 (fun T1 _ X1 N1 e1 => ?_)
  refine g_istoreN C X1 d6_6 7 (w := 3) rfl (ls' := #[rv o1, iv 0, iv 3]) rfl ?_
  refine g_iloadN C X1 d6_7 8 rfl ?_
  refine g_iloadN C X1 d6_8 9 rfl ?_
  refine g_icmp_ge C X1 d6_9 29 12 (fun hc9 => absurd hc9 (by decide)) (fun hc9 => ?_)
  refine g_aloadN C X1 d6_12 13 rfl rfl ?_
  refine g_iloadN C X1 d6_13 14 rfl ?_
  refine g_callV0 C X1 (b_10 hw) F0 d6_14 [(.int 0)] [] 0 (rm16_3_0 hw Z0 F0 F1 F2 F3 F4 F5 hcs hwf) N1 pd_9 e1 17 (fun T2 _ X2 N2 e2 => ?_)
  refine g_callS0 C X2 (b_11 hw) d6_17 [(.int (own_ch c1))] [] 0 (rm21 hw Z0) N2 pd_10 e2 20 (fun T3 _ X3 N3 e3 => ?_)
  refine g_if_eq C X3 d6_20 29 23 (fun hc20 => absurd hc20 hs1) (fun hc20 => ?_)
  refine g_iinc C X3 d6_23 26 rfl (w := 1) rfl (ls' := #[rv o1, iv 1, iv 3]) rfl ?_
  refine g_goto C X3 d6_26 7 ?_
  refine g_iloadN C X3 d6_7 8 rfl ?_
  refine g_iloadN C X3 d6_8 9 rfl ?_
  refine g_icmp_ge C X3 d6_9 29 12 (fun hc9 => absurd hc9 (by decide)) (fun hc9 => ?_)
  refine g_aloadN C X3 d6_12 13 rfl rfl ?_
  refine g_iloadN C X3 d6_13 14 rfl ?_
  refine g_callV0 C X3 (b_10 hw) F0 d6_14 [(.int 1)] [] 0 (rm16_3_1 hw Z0 F0 F1 F2 F3 F4 F5 hcs hwf) N3 pd_9 e3 17 (fun T4 _ X4 N4 e4 => ?_)
  refine g_callS0 C X4 (b_11 hw) d6_17 [(.int (own_ch c2))] [] 0 (rm21 hw Z0) N4 pd_10 e4 20 (fun T5 _ X5 N5 e5 => ?_)
  refine g_if_eq C X5 d6_20 29 23 (fun hc20 => ?_) (fun hc20 => absurd hs2 hc20)
  refine g_iloadN C X5 d6_29 30 rfl ?_
  refine g_iloadN C X5 d6_30 31 rfl ?_
  refine g_icmp_le C X5 d6_31 53 34 (fun hc31 => absurd hc31 (by decide)) (fun hc31 => ?_)
  refine g_aloadN C X5 d6_34 35 rfl rfl ?_
  refine g_iloadN C X5 d6_35 36 rfl ?_
  refine g_iconst C X5 d6_36 37 (v := 1) rfl ?_
  refine g_isub C X5 d6_37 38 ?_
  rw [show (3 : Int32) - 1 = 2 from by decide]
  refine g_callV0 C X5 (b_10 hw) F0 d6_38 [(.int 2)] [] 0 (rm16_3_2 hw Z0 F0 F1 F2 F3 F4 F5 hcs hwf) N5 pd_9 e5 41 (fun T6 _ X6 N6 e6 => ?_)
  refine g_callS0 C X6 (b_11 hw) d6_41 [(.int (own_ch c3))] [] 0 (rm21 hw Z0) N6 pd_10 e6 44 (fun T7 _ X7 N7 e7 => ?_)
  refine g_if_eq C X7 d6_44 53 47 (fun hc44 => absurd hc44 hs3) (fun hc44 => ?_)
  refine g_iinc C X7 d6_47 50 rfl (w := 2) rfl (ls' := #[rv o1, iv 1, iv 2]) rfl ?_
  refine g_goto C X7 d6_50 29 ?_
  refine g_iloadN C X7 d6_29 30 rfl ?_
  refine g_iloadN C X7 d6_30 31 rfl ?_
  refine g_icmp_le C X7 d6_31 53 34 (fun hc31 => absurd hc31 (by decide)) (fun hc31 => ?_)
  refine g_aloadN C X7 d6_34 35 rfl rfl ?_
  refine g_iloadN C X7 d6_35 36 rfl ?_
  refine g_iconst C X7 d6_36 37 (v := 1) rfl ?_
  refine g_isub C X7 d6_37 38 ?_
  rw [show (2 : Int32) - 1 = 1 from by decide]
  refine g_callV0 C X7 (b_10 hw) F0 d6_38 [(.int 1)] [] 0 (rm16_3_1 hw Z0 F0 F1 F2 F3 F4 F5 hcs hwf) N7 pd_9 e7 41 (fun T8 _ X8 N8 e8 => ?_)
  refine g_callS0 C X8 (b_11 hw) d6_41 [(.int (own_ch c2))] [] 0 (rm21 hw Z0) N8 pd_10 e8 44 (fun T9 _ X9 N9 e9 => ?_)
  refine g_if_eq C X9 d6_44 53 47 (fun hc44 => ?_) (fun hc44 => absurd hc20 hc44)
  refine g_aloadN C X9 d6_53 54 rfl rfl ?_
  refine g_iloadN C X9 d6_54 55 rfl ?_
  refine g_iloadN C X9 d6_55 56 rfl ?_
  refine g_callV C X9 (w_46 hw) (w_47 hw) (notFace_of_selects (args := #[]) (mvT C.2.1 (w_49 hw))) (w_49 hw) (w_48 hw) (w_50 hw) (w_8 hw) F0 d6_56 [(.int 1), (.int 2)] [] 0 (rm9_3_1_2 hw Z0 F0 F1 F2 F3 F4 F5 hcs hwf) pd_8 e9 59 (fun u10 T10 L10 X10 hQ10 => ?_)
  obtain ⟨o310, o410, kd310, rfl, Nq10, szo310, szo410, Kq10, q10_0, q10_1, q10_2, q10_3⟩ := hQ10
  have N10 := Fr.app N9 Nq10
  have sz_o310 : h0.size ≤ o310 := Nat.le_trans K00.1 szo310
  have sz_o410 : h0.size ≤ o410 := Nat.le_trans K00.1 szo410
  have K10 := K00.trans Kq10 all0
  refine ret1 ?_
  exact g_retA C X10 K rfl rfl rfl d6_59 (by decide) (by decide) rfl ⟨o310, o410, kd310, rfl, N10, sz_o310, sz_o410, K10, q10_0, q10_1, q10_2, q10_3⟩
theorem rm25_1_3  (hw : OwnW a0 Z) (Z0 : n0 ≤ h0.size) : OwnMF l Z y25 jdk_65_method_131_code 2 none ws ⟨0, 0, 0, 0⟩ #[(.int 1), (.int 3)] h0 (OwnQ none h0 n0) := by
  refine bo (plainFor_of_name pn_23) ?_
  intro p e s m below meth c T0 G C hnm hnamed X0 e0 K
  have N0 := Fr.nil n0
  refine Goes.to (congrArg T0.setTop (ef_25ii m (1 : Int32) (3 : Int32))) ?_
  refine g_iloadN C X0 d25_0 1 rfl ?_
  refine g_iloadN C X0 d25_1 2 rfl ?_
  refine g_icmp_ge C X0 d25_2 37 5 (fun hc2 => ?_) (fun hc2 => absurd hc2 (by decide))
  exact g_retV C X0 K d25_37 (by decide) (by decide) e0 ⟨rfl, N0, rfl⟩
def Q24_3_1_3 (Z : State) (o1 : Addr) (kd1 : ClassId) (c1 : Int32) (c2 : Int32) (c3 : Int32) (h0 : Heap) (n0 : Nat) (v : Option Value) (h : Heap) (L : List Loc) : Prop := ∃ (o3 : Addr) (kd3 : ClassId), v = some (.ref o3) ∧ Fr n0 L ∧ h0.size ≤ o3 ∧ Keep h0 h [] ∧ Arv Z h o3 kd3 .byte 2 [(.int c2), (.int c3)] (.int 0)
theorem rm24_3_1_3 {o1 : Addr} {kd1 : ClassId} {c1 c2 c3 : Int32} (hw : OwnW a0 Z) (Z0 : n0 ≤ h0.size) (F0 : Arv Z h0 o1 kd1 .byte 3 [(.int c1), (.int c2), (.int c3)] (.int 0)) : OwnMF l Z y24 jdk_65_method_133_code 5 (some (.array .byte)) ws ⟨1, 1, 2, 18⟩ #[(.ref o1), (.int 1), (.int 3)] h0 (Q24_3_1_3 Z o1 kd1 c1 c2 c3 h0 n0) := by
  refine bo (plainFor_of_name pn_23) ?_
  intro p e s m below meth c T0 G C hnm hnamed X0 e0 K
  have N0 := Fr.nil n0
  refine Goes.to (congrArg T0.setTop (ef_24rii m o1 (1 : Int32) (3 : Int32))) ?_
  have K00 := Keep.refl h0 []
  refine g_iloadN C X0 d24_0 1 rfl ?_
  refine g_iloadN C X0 d24_1 2 rfl ?_
  refine g_callSn C X0 (b_12 hw) d24_2 [(.int 1), (.int 3)] [] 0 (rm25_1_3 hw Z0 ) N0 pd_1 e0 5 (fun T1 _ X1 N1 e1 => ?_)
  refine g_iloadN C X1 d24_5 6 rfl ?_
  refine g_iloadN C X1 d24_6 7 rfl ?_
  refine g_isub C X1 d24_7 8 ?_
  rw [show (3 : Int32) - 1 = 2 from by decide]
  refine g_istoreN C X1 d24_8 9 (w := 2) rfl (ls' := #[rv o1, iv 1, iv 3, iv 2, uu]) rfl ?_
  refine g_iloadN C X1 d24_9 10 rfl ?_
  refine g_newA (aty := .byte) (n := (2 : Int32)) C X1 (cap := 2) (w_20 hw) e1 d24_10 12 (by decide) (by decide) (by decide) (by decide) (by decide) (fun T2 h2 b2 ki2 X2 e2 g2 E2 A2 => ?_)
  have f4 := F0.ext E2
  have gn_b2 : n0 ≤ b2 := Nat.le_trans Z0 (Nat.le_of_eq g2.symm)
  have Z2 := Nat.le_trans Z0 E2.1
  have sz_b2 : h0.size ≤ b2 := Nat.le_trans K00.1 (Nat.le_of_eq g2.symm)
  have K2 := K00.ext E2
  have f5 : Arv Z h2 b2 ki2 .byte 2 [(.int 0), (.int 0)] (.int 0) := A2.pad (pad_rep [] (.int 0) 2)
  refine g_astore C X2 d24_12 14 rfl (ls' := #[rv o1, iv 1, iv 3, iv 2, rv b2]) rfl ?_
  refine g_aloadN C X2 d24_14 15 rfl rfl ?_
  refine g_iloadN C X2 d24_15 16 rfl ?_
  refine g_aload C X2 d24_16 18 rfl rfl ?_
  refine g_iconst C X2 d24_18 19 (v := 0) rfl ?_
  refine g_aloadN C X2 d24_19 20 rfl rfl ?_
  refine g_arraylength C X2 e2 f4 d24_20 21 ?_
  refine g_iloadN C X2 d24_21 22 rfl ?_
  refine g_isub C X2 d24_22 23 ?_
  rw [show (3 : Int32) - 1 = 2 from by decide]
  refine g_iloadN C X2 d24_23 24 rfl ?_
  refine g_callS0 C X2 (b_13 hw) d24_24 [(.int 2), (.int 2)] [(.int 0), (.ref b2), (.int 1), (.ref o1)] 4 (rm26 hw Z2) N1 pd_11 e2 27 (fun T6 _ X6 N6 e6 => ?_)
  rw [show fMin (2 : Int32) (2 : Int32) = (2 : Int32) from by decide]
  refine g_acopy C X6 (us := [(.int c2), (.int c3)]) (ur := [(.int c2), (.int c3)]) (w_115 hw) (w_118 hw) (w_116 hw) (w_117 hw) e6 f4 f5 rfl (by decide) (by decide) (by decide) (by decide) (by decide) rfl (by simp; try decide) rfl N6 gn_b2 rfl d24_27 30 (by decide) (W := 0) (Nat.le_of_eq rfl) (by decide) (fun T7 h7 L7 X7 e7 N7 Kq7 V7 => ?_)
  have K7 := K2.trans Kq7 (allS (Or.inr sz_b2) all0)
  refine g_aload C X7 d24_30 32 rfl rfl ?_
  exact g_retA C X7 K rfl rfl rfl d24_32 (by decide) (by decide) e7 ⟨b2, ki2, rfl, N7, sz_b2, K7, V7⟩
def Q23_3_1_3 (Z : State) (o1 : Addr) (kd1 : ClassId) (c1 : Int32) (c2 : Int32) (c3 : Int32) (h0 : Heap) (n0 : Nat) (v : Option Value) (h : Heap) (L : List Loc) : Prop := ∃ (o3 : Addr) (kd3 : ClassId), v = some (.ref o3) ∧ Fr n0 L ∧ h0.size ≤ o3 ∧ Keep h0 h [] ∧ Arv Z h o3 kd3 .byte 2 [(.int c2), (.int c3)] (.int 0)
theorem rm23_3_1_3 {o1 : Addr} {kd1 : ClassId} {c1 c2 c3 : Int32} (hw : OwnW a0 Z) (Z0 : n0 ≤ h0.size) (F0 : Arv Z h0 o1 kd1 .byte 3 [(.int c1), (.int c2), (.int c3)] (.int 0)) : OwnMF l Z y23 jdk_65_method_132_code 3 (some (.array .byte)) ws ⟨2, 1, 2, 34⟩ #[(.ref o1), (.int 1), (.int 3)] h0 (Q23_3_1_3 Z o1 kd1 c1 c2 c3 h0 n0) := by
  refine bo (plainFor_of_name pn_23) ?_
  intro p e s m below meth c T0 G C hnm hnamed X0 e0 K
  have N0 := Fr.nil n0
  refine Goes.to (congrArg T0.setTop (ef_23rii m o1 (1 : Int32) (3 : Int32))) ?_
  have K00 := Keep.refl h0 []
  refine g_iloadN C X0 d23_0 1 rfl ?_
  refine g_if_ne C X0 d23_1 10 4 (fun hc1 => ?_) (fun hc1 => absurd hc1 (by decide))
  refine g_aloadN C X0 d23_10 11 rfl rfl ?_
  refine g_iloadN C X0 d23_11 12 rfl ?_
  refine g_iloadN C X0 d23_12 13 rfl ?_
  refine g_callS C X0 (w_106 hw) (w_107 hw) (w_104 hw) (w_108 hw) d23_13 [(.ref o1), (.int 1), (.int 3)] [] 0 (rm24_3_1_3 hw Z0 F0) pd_12 e0 16 (fun u1 T1 L1 X1 hQ1 => ?_)
  obtain ⟨o31, kd31, rfl, Nq1, szo31, Kq1, q1_0⟩ := hQ1
  have N1 := Fr.app N0 Nq1
  have sz_o31 : h0.size ≤ o31 := Nat.le_trans K00.1 szo31
  have K1 := K00.trans Kq1 all0
  refine ret1 ?_
  exact g_retA C X1 K rfl rfl rfl d23_16 (by decide) (by decide) rfl ⟨o31, kd31, rfl, N1, sz_o31, K1, q1_0⟩
def Q22_3_1_2 (Z : State) (o1 : Addr) (kd1 : ClassId) (c1 : Int32) (c2 : Int32) (c3 : Int32) (h0 : Heap) (n0 : Nat) (v : Option Value) (h : Heap) (L : List Loc) : Prop := ∃ (o3 : Addr) (o4 : Addr) (kd3 : ClassId), v = some (.ref o3) ∧ Fr n0 L ∧ h0.size ≤ o3 ∧ h0.size ≤ o4 ∧ Keep h0 h [] ∧ OEs Z h o3 ∧ OFv Z h o3 (.ref o4) ∧ OFc Z h o3 ∧ Arv Z h o4 kd3 .byte 2 [(.int c2), (.int c3)] (.int 0)
theorem rm22_3_1_2 {o1 : Addr} {kd1 : ClassId} {c1 c2 c3 : Int32} (hw : OwnW a0 Z) (Z0 : n0 ≤ h0.size) (F0 : Arv Z h0 o1 kd1 .byte 3 [(.int c1), (.int c2), (.int c3)] (.int 0)) : OwnMF l Z y22 jdk_43_method_47_code 3 (some (.object "java/lang/String")) ws ⟨3, 2, 6, 50⟩ #[(.ref o1), (.int 1), (.int 2)] h0 (Q22_3_1_2 Z o1 kd1 c1 c2 c3 h0 n0) := by
  refine bo (plainFor_of_name pn_18) ?_
  intro p e s m below meth c T0 G C hnm hnamed X0 e0 K
  have N0 := Fr.nil n0
  refine Goes.to (congrArg T0.setTop (ef_22rii m o1 (1 : Int32) (2 : Int32))) ?_
  have K00 := Keep.refl h0 []
  refine g_iloadN C X0 d22_0 1 rfl ?_
  refine g_if_ne C X0 d22_1 7 4 (fun hc1 => ?_) (fun hc1 => absurd hc1 (by decide))
  refine g_new C X0 (w_101 hw) (w_7 hw) (w_8 hw) e0 d22_7 10 (by decide) (by decide) (fun T1 h1 b1 X1 e1 g1 E1 A1 D1 => ?_)
  have f3 := F0.ext E1
  have gn_b1 : n0 ≤ b1 := Nat.le_trans Z0 (Nat.le_of_eq g1.symm)
  have Z1 := Nat.le_trans Z0 E1.1
  have sz_b1 : h0.size ≤ b1 := Nat.le_trans K00.1 (Nat.le_of_eq g1.symm)
  have K1 := K00.ext E1
  have f4 : OFv Z h1 b1 .null := D1 (Or.inr (w_21 hw)) (ty := (.array .byte)) (by decide)
  have f5 : OFc Z h1 b1 := D1 (Or.inr (w_22 hw)) (ty := .byte) (by decide)
  refine g_dup C X1 d22_10 11 rfl ?_
  refine g_aloadN C X1 d22_11 12 rfl rfl ?_
  refine g_iloadN C X1 d22_12 13 rfl ?_
  refine g_iloadN C X1 d22_13 14 rfl ?_
  refine g_iloadN C X1 d22_14 15 rfl ?_
  refine g_iadd C X1 d22_15 16 ?_
  rw [show (1 : Int32) + 2 = 3 from by decide]
  refine g_callS C X1 (w_102 hw) (w_103 hw) (w_104 hw) (w_105 hw) d22_16 [(.ref o1), (.int 1), (.int 3)] [(.ref b1), (.ref b1)] 2 (rm23_3_1_3 hw Z1 f3) pd_12 e1 19 (fun u6 T6 L6 X6 hQ6 => ?_)
  obtain ⟨o36, kd36, rfl, Nq6, szo36, Kq6, q6_0⟩ := hQ6
  have N6 := Fr.app N0 Nq6
  have n7 : b1 ≠ o36 := Nat.ne_of_lt (Nat.lt_of_lt_of_le A1.lt szo36)
  have f10 := A1.keep Kq6
  have f11 := f4.keep Kq6 nin0
  have f12 := f5.keep Kq6 nin0
  have Z6 := Nat.le_trans Z1 Kq6.1
  have sz_o36 : h0.size ≤ o36 := Nat.le_trans K1.1 szo36
  have K6 := K1.trans Kq6 all0
  refine ret1 ?_
  refine g_iconst C X6 d22_19 20 (v := 0) rfl ?_
  refine g_callI C X6 rfl (w_119 hw) (w_120 hw) (w_8 hw) (w_121 hw) d22_20 [(.ref o36), (.int 0)] [(.ref b1)] 1 (rm27 hw Z6 f10 f11 f12 gn_b1) pd_13 rfl 23 (fun u13 T13 L13 X13 hQ13 => ?_)
  obtain ⟨rfl, Nq13, Kq13, q13_0, q13_1, q13_2⟩ := hQ13
  have N13 := Fr.app N6 Nq13
  have f16 := q6_0.keep Kq13 (ninS (Ne.symm n7) nin0)
  have K13 := K6.trans Kq13 (allS (Or.inr sz_b1) all0)
  refine ret0 ?_
  exact g_retA C X13 K rfl rfl rfl d22_23 (by decide) (by decide) rfl ⟨b1, o36, kd36, rfl, N13, sz_b1, sz_o36, K13, q13_0, q13_1, q13_2, f16⟩
def Q9_3_1_3 (Z : State) (o1 : Addr) (o2 : Addr) (kd1 : ClassId) (c1 : Int32) (c2 : Int32) (c3 : Int32) (cs1 : Int32) (wf1 : Value) (h0 : Heap) (n0 : Nat) (v : Option Value) (h : Heap) (L : List Loc) : Prop := ∃ (o3 : Addr) (o4 : Addr) (kd3 : ClassId), v = some (.ref o3) ∧ Fr n0 L ∧ h0.size ≤ o3 ∧ h0.size ≤ o4 ∧ Keep h0 h [] ∧ OEs Z h o3 ∧ OFv Z h o3 (.ref o4) ∧ OFc Z h o3 ∧ Arv Z h o4 kd3 .byte 2 [(.int c2), (.int c3)] (.int 0)
theorem rm9_3_1_3 {o1 o2 : Addr} {kd1 : ClassId} {c1 c2 c3 cs1 : Int32} {wf1 : Value} (hw : OwnW a0 Z) (Z0 : n0 ≤ h0.size) (F0 : OEs Z h0 o1) (F1 : OFv Z h0 o1 (.ref o2)) (F2 : OFc Z h0 o1) (F3 : Arv Z h0 o2 kd1 .byte 3 [(.int c1), (.int c2), (.int c3)] (.int 0)) (F4 : OSc Z h0 cs1) (F5 : OSf Z h0 wf1) (hcs : ¬ cs1 = (0 : Int32)) (hwf : wf1.isRef = true) : OwnMF l Z y9 jdk_42_method_92_code 5 (some (.object "java/lang/String")) ws ⟨4, 2, 6, 64⟩ #[(.ref o1), (.int 1), (.int 3)] h0 (Q9_3_1_3 Z o1 o2 kd1 c1 c2 c3 cs1 wf1 h0 n0) := by
  refine bo (plainFor_of_name pn_2) ?_
  intro p e s m below meth c T0 G C hnm hnamed X0 e0 K
  have N0 := Fr.nil n0
  refine Goes.to (congrArg T0.setTop (ef_9rii m o1 (1 : Int32) (3 : Int32))) ?_
  have K00 := Keep.refl h0 []
  refine g_aloadN C X0 d9_0 1 rfl rfl ?_
  refine g_callV0 C X0 (b_6 hw) F0 d9_1 [] [] 0 (rm7_3 hw Z0 F0 F1 F2 F3 F4 hcs) N0 pd_6 e0 4 (fun T1 _ X1 N1 e1 => ?_)
  refine g_istoreN C X1 d9_4 5 (w := 3) rfl (ls' := #[rv o1, iv 1, iv 3, iv 3, uu]) rfl ?_
  refine g_iloadN C X1 d9_5 6 rfl ?_
  refine g_iloadN C X1 d9_6 7 rfl ?_
  refine g_iloadN C X1 d9_7 8 rfl ?_
  refine g_callSn C X1 (b_7 hw) d9_8 [(.int 1), (.int 3), (.int 3)] [] 0 (rm10 hw Z0 F5 hwf (by decide) (by decide) (by decide)) N1 pd_7 e1 11 (fun T2 _ X2 N2 e2 => ?_)
  refine g_iloadN C X2 d9_11 12 rfl ?_
  refine g_if_ne C X2 d9_12 22 15 (fun hc12 => ?_) (fun hc12 => absurd hc12 (by decide))
  refine g_iloadN C X2 d9_22 23 rfl ?_
  refine g_iloadN C X2 d9_23 24 rfl ?_
  refine g_isub C X2 d9_24 25 ?_
  rw [show (3 : Int32) - 1 = 2 from by decide]
  refine g_istore C X2 d9_25 27 (w := 2) rfl (ls' := #[rv o1, iv 1, iv 3, iv 3, iv 2]) rfl ?_
  refine g_aloadN C X2 d9_27 28 rfl rfl ?_
  refine g_callV0 C X2 (b_2 hw) F0 d9_28 [] [] 0 (rm17 hw Z0 F2 F4 hcs) N2 pd_2 e2 31 (fun T3 _ X3 N3 e3 => ?_)
  refine g_if_eq C X3 d9_31 47 34 (fun hc31 => absurd hc31 (by decide)) (fun hc31 => ?_)
  refine g_aloadN C X3 d9_34 35 rfl rfl ?_
  refine g_getF C X3 (w_25 hw) Via.refl e3 F1 d9_35 38 (fun T4 X4 e4 => ?_)
  refine g_iloadN C X4 d9_38 39 rfl ?_
  refine g_iload C X4 d9_39 41 rfl ?_
  refine g_callS C X4 (w_98 hw) (w_99 hw) (w_86 hw) (w_100 hw) d9_41 [(.ref o2), (.int 1), (.int 2)] [] 0 (rm22_3_1_2 hw Z0 F3) pd_14 e4 44 (fun u5 T5 L5 X5 hQ5 => ?_)
  obtain ⟨o35, o45, kd35, rfl, Nq5, szo35, szo45, Kq5, q5_0, q5_1, q5_2, q5_3⟩ := hQ5
  have N5 := Fr.app N3 Nq5
  have sz_o35 : h0.size ≤ o35 := Nat.le_trans K00.1 szo35
  have sz_o45 : h0.size ≤ o45 := Nat.le_trans K00.1 szo45
  have K5 := K00.trans Kq5 all0
  refine ret1 ?_
  refine g_goto C X5 d9_44 57 ?_
  exact g_retA C X5 K rfl rfl rfl d9_57 (by decide) (by decide) rfl ⟨o35, o45, kd35, rfl, N5, sz_o35, sz_o45, K5, q5_0, q5_1, q5_2, q5_3⟩
def Q6_3_1_3 (Z : State) (o1 : Addr) (o2 : Addr) (kd1 : ClassId) (c1 : Int32) (c2 : Int32) (c3 : Int32) (cs1 : Int32) (wf1 : Value) (h0 : Heap) (n0 : Nat) (v : Option Value) (h : Heap) (L : List Loc) : Prop := ∃ (o3 : Addr) (o4 : Addr) (kd3 : ClassId), v = some (.ref o3) ∧ Fr n0 L ∧ h0.size ≤ o3 ∧ h0.size ≤ o4 ∧ Keep h0 h [] ∧ OEs Z h o3 ∧ OFv Z h o3 (.ref o4) ∧ OFc Z h o3 ∧ Arv Z h o4 kd3 .byte 2 [(.int c2), (.int c3)] (.int 0)
theorem rm6_3_1_3 {o1 o2 : Addr} {kd1 : ClassId} {c1 c2 c3 cs1 : Int32} {wf1 : Value} (hw : OwnW a0 Z) (Z0 : n0 ≤ h0.size) (F0 : OEs Z h0 o1) (F1 : OFv Z h0 o1 (.ref o2)) (F2 : OFc Z h0 o1) (F3 : Arv Z h0 o2 kd1 .byte 3 [(.int c1), (.int c2), (.int c3)] (.int 0)) (F4 : OSc Z h0 cs1) (F5 : OSf Z h0 wf1) (hcs : ¬ cs1 = (0 : Int32)) (hwf : wf1.isRef = true) (hs1 : ¬ fIs (own_ch c1) = (0 : Int32)) (hs2 : fIs (own_ch c2) = (0 : Int32)) (hs3 : fIs (own_ch c3) = (0 : Int32)) : OwnMF l Z y6 prog_35_method_2_code 3 (some (.object "java/lang/String")) ws ⟨5, 2, 6, 80⟩ #[(.ref o1)] h0 (Q6_3_1_3 Z o1 o2 kd1 c1 c2 c3 cs1 wf1 h0 n0) := by
  refine bo (plainFor_of_name pn_6) ?_
  intro p e s m below meth c T0 G C hnm hnamed X0 e0 K
  have N0 := Fr.nil n0
  refine Goes.to (congrArg T0.setTop (ef_6r m o1)) ?_
  have K00 := Keep.refl h0 []
  refine g_iconst C X0 d6_0 1 (v := 0) rfl ?_
  refine g_istoreN C X0 d6_1 2 (w := 0) rfl (ls' := #[rv o1, iv 0, uu]) rfl ?_
  refine g_aloadN C X0 d6_2 3 rfl rfl ?_
  refine g_callV0 C X0 (b_8 hw) F0 d6_3 [] [] 0 (rm7_3 hw Z0 F0 F1 F2 F3 F4 hcs) N0 pd_6 e0 6 (fun T1 _ X1 N1 e1 => ?_)
  refine g_istoreN C X1 d6_6 7 (w := 3) rfl (ls' := #[rv o1, iv 0, iv 3]) rfl ?_
  refine g_iloadN C X1 d6_7 8 rfl ?_
  refine g_iloadN C X1 d6_8 9 rfl ?_
  refine g_icmp_ge C X1 d6_9 29 12 (fun hc9 => absurd hc9 (by decide)) (fun hc9 => ?_)
  refine g_aloadN C X1 d6_12 13 rfl rfl ?_
  refine g_iloadN C X1 d6_13 14 rfl ?_
  refine g_callV0 C X1 (b_10 hw) F0 d6_14 [(.int 0)] [] 0 (rm16_3_0 hw Z0 F0 F1 F2 F3 F4 F5 hcs hwf) N1 pd_9 e1 17 (fun T2 _ X2 N2 e2 => ?_)
  refine g_callS0 C X2 (b_11 hw) d6_17 [(.int (own_ch c1))] [] 0 (rm21 hw Z0) N2 pd_10 e2 20 (fun T3 _ X3 N3 e3 => ?_)
  refine g_if_eq C X3 d6_20 29 23 (fun hc20 => absurd hc20 hs1) (fun hc20 => ?_)
  refine g_iinc C X3 d6_23 26 rfl (w := 1) rfl (ls' := #[rv o1, iv 1, iv 3]) rfl ?_
  refine g_goto C X3 d6_26 7 ?_
  refine g_iloadN C X3 d6_7 8 rfl ?_
  refine g_iloadN C X3 d6_8 9 rfl ?_
  refine g_icmp_ge C X3 d6_9 29 12 (fun hc9 => absurd hc9 (by decide)) (fun hc9 => ?_)
  refine g_aloadN C X3 d6_12 13 rfl rfl ?_
  refine g_iloadN C X3 d6_13 14 rfl ?_
  refine g_callV0 C X3 (b_10 hw) F0 d6_14 [(.int 1)] [] 0 (rm16_3_1 hw Z0 F0 F1 F2 F3 F4 F5 hcs hwf) N3 pd_9 e3 17 (fun T4 _ X4 N4 e4 => ?_)
  refine g_callS0 C X4 (b_11 hw) d6_17 [(.int (own_ch c2))] [] 0 (rm21 hw Z0) N4 pd_10 e4 20 (fun T5 _ X5 N5 e5 => ?_)
  refine g_if_eq C X5 d6_20 29 23 (fun hc20 => ?_) (fun hc20 => absurd hs2 hc20)
  refine g_iloadN C X5 d6_29 30 rfl ?_
  refine g_iloadN C X5 d6_30 31 rfl ?_
  refine g_icmp_le C X5 d6_31 53 34 (fun hc31 => absurd hc31 (by decide)) (fun hc31 => ?_)
  refine g_aloadN C X5 d6_34 35 rfl rfl ?_
  refine g_iloadN C X5 d6_35 36 rfl ?_
  refine g_iconst C X5 d6_36 37 (v := 1) rfl ?_
  refine g_isub C X5 d6_37 38 ?_
  rw [show (3 : Int32) - 1 = 2 from by decide]
  refine g_callV0 C X5 (b_10 hw) F0 d6_38 [(.int 2)] [] 0 (rm16_3_2 hw Z0 F0 F1 F2 F3 F4 F5 hcs hwf) N5 pd_9 e5 41 (fun T6 _ X6 N6 e6 => ?_)
  refine g_callS0 C X6 (b_11 hw) d6_41 [(.int (own_ch c3))] [] 0 (rm21 hw Z0) N6 pd_10 e6 44 (fun T7 _ X7 N7 e7 => ?_)
  refine g_if_eq C X7 d6_44 53 47 (fun hc44 => ?_) (fun hc44 => absurd hs3 hc44)
  refine g_aloadN C X7 d6_53 54 rfl rfl ?_
  refine g_iloadN C X7 d6_54 55 rfl ?_
  refine g_iloadN C X7 d6_55 56 rfl ?_
  refine g_callV C X7 (w_46 hw) (w_47 hw) (notFace_of_selects (args := #[]) (mvT C.2.1 (w_49 hw))) (w_49 hw) (w_48 hw) (w_50 hw) (w_8 hw) F0 d6_56 [(.int 1), (.int 3)] [] 0 (rm9_3_1_3 hw Z0 F0 F1 F2 F3 F4 F5 hcs hwf) pd_8 e7 59 (fun u8 T8 L8 X8 hQ8 => ?_)
  obtain ⟨o38, o48, kd38, rfl, Nq8, szo38, szo48, Kq8, q8_0, q8_1, q8_2, q8_3⟩ := hQ8
  have N8 := Fr.app N7 Nq8
  have sz_o38 : h0.size ≤ o38 := Nat.le_trans K00.1 szo38
  have sz_o48 : h0.size ≤ o48 := Nat.le_trans K00.1 szo48
  have K8 := K00.trans Kq8 all0
  refine ret1 ?_
  exact g_retA C X8 K rfl rfl rfl d6_59 (by decide) (by decide) rfl ⟨o38, o48, kd38, rfl, N8, sz_o38, sz_o48, K8, q8_0, q8_1, q8_2, q8_3⟩
theorem rm25_2_3  (hw : OwnW a0 Z) (Z0 : n0 ≤ h0.size) : OwnMF l Z y25 jdk_65_method_131_code 2 none ws ⟨0, 0, 0, 0⟩ #[(.int 2), (.int 3)] h0 (OwnQ none h0 n0) := by
  refine bo (plainFor_of_name pn_23) ?_
  intro p e s m below meth c T0 G C hnm hnamed X0 e0 K
  have N0 := Fr.nil n0
  refine Goes.to (congrArg T0.setTop (ef_25ii m (2 : Int32) (3 : Int32))) ?_
  refine g_iloadN C X0 d25_0 1 rfl ?_
  refine g_iloadN C X0 d25_1 2 rfl ?_
  refine g_icmp_ge C X0 d25_2 37 5 (fun hc2 => ?_) (fun hc2 => absurd hc2 (by decide))
  exact g_retV C X0 K d25_37 (by decide) (by decide) e0 ⟨rfl, N0, rfl⟩
def Q24_3_2_3 (Z : State) (o1 : Addr) (kd1 : ClassId) (c1 : Int32) (c2 : Int32) (c3 : Int32) (h0 : Heap) (n0 : Nat) (v : Option Value) (h : Heap) (L : List Loc) : Prop := ∃ (o3 : Addr) (kd3 : ClassId), v = some (.ref o3) ∧ Fr n0 L ∧ h0.size ≤ o3 ∧ Keep h0 h [] ∧ Arv Z h o3 kd3 .byte 1 [(.int c3)] (.int 0)
theorem rm24_3_2_3 {o1 : Addr} {kd1 : ClassId} {c1 c2 c3 : Int32} (hw : OwnW a0 Z) (Z0 : n0 ≤ h0.size) (F0 : Arv Z h0 o1 kd1 .byte 3 [(.int c1), (.int c2), (.int c3)] (.int 0)) : OwnMF l Z y24 jdk_65_method_133_code 5 (some (.array .byte)) ws ⟨1, 1, 1, 18⟩ #[(.ref o1), (.int 2), (.int 3)] h0 (Q24_3_2_3 Z o1 kd1 c1 c2 c3 h0 n0) := by
  refine bo (plainFor_of_name pn_23) ?_
  intro p e s m below meth c T0 G C hnm hnamed X0 e0 K
  have N0 := Fr.nil n0
  refine Goes.to (congrArg T0.setTop (ef_24rii m o1 (2 : Int32) (3 : Int32))) ?_
  have K00 := Keep.refl h0 []
  refine g_iloadN C X0 d24_0 1 rfl ?_
  refine g_iloadN C X0 d24_1 2 rfl ?_
  refine g_callSn C X0 (b_12 hw) d24_2 [(.int 2), (.int 3)] [] 0 (rm25_2_3 hw Z0 ) N0 pd_1 e0 5 (fun T1 _ X1 N1 e1 => ?_)
  refine g_iloadN C X1 d24_5 6 rfl ?_
  refine g_iloadN C X1 d24_6 7 rfl ?_
  refine g_isub C X1 d24_7 8 ?_
  rw [show (3 : Int32) - 2 = 1 from by decide]
  refine g_istoreN C X1 d24_8 9 (w := 1) rfl (ls' := #[rv o1, iv 2, iv 3, iv 1, uu]) rfl ?_
  refine g_iloadN C X1 d24_9 10 rfl ?_
  refine g_newA (aty := .byte) (n := (1 : Int32)) C X1 (cap := 1) (w_20 hw) e1 d24_10 12 (by decide) (by decide) (by decide) (by decide) (by decide) (fun T2 h2 b2 ki2 X2 e2 g2 E2 A2 => ?_)
  have f4 := F0.ext E2
  have gn_b2 : n0 ≤ b2 := Nat.le_trans Z0 (Nat.le_of_eq g2.symm)
  have Z2 := Nat.le_trans Z0 E2.1
  have sz_b2 : h0.size ≤ b2 := Nat.le_trans K00.1 (Nat.le_of_eq g2.symm)
  have K2 := K00.ext E2
  have f5 : Arv Z h2 b2 ki2 .byte 1 [(.int 0)] (.int 0) := A2.pad (pad_rep [] (.int 0) 1)
  refine g_astore C X2 d24_12 14 rfl (ls' := #[rv o1, iv 2, iv 3, iv 1, rv b2]) rfl ?_
  refine g_aloadN C X2 d24_14 15 rfl rfl ?_
  refine g_iloadN C X2 d24_15 16 rfl ?_
  refine g_aload C X2 d24_16 18 rfl rfl ?_
  refine g_iconst C X2 d24_18 19 (v := 0) rfl ?_
  refine g_aloadN C X2 d24_19 20 rfl rfl ?_
  refine g_arraylength C X2 e2 f4 d24_20 21 ?_
  refine g_iloadN C X2 d24_21 22 rfl ?_
  refine g_isub C X2 d24_22 23 ?_
  rw [show (3 : Int32) - 2 = 1 from by decide]
  refine g_iloadN C X2 d24_23 24 rfl ?_
  refine g_callS0 C X2 (b_13 hw) d24_24 [(.int 1), (.int 1)] [(.int 0), (.ref b2), (.int 2), (.ref o1)] 4 (rm26 hw Z2) N1 pd_11 e2 27 (fun T6 _ X6 N6 e6 => ?_)
  rw [show fMin (1 : Int32) (1 : Int32) = (1 : Int32) from by decide]
  refine g_acopy C X6 (us := [(.int c3)]) (ur := [(.int c3)]) (w_115 hw) (w_118 hw) (w_116 hw) (w_117 hw) e6 f4 f5 rfl (by decide) (by decide) (by decide) (by decide) (by decide) rfl (by simp; try decide) rfl N6 gn_b2 rfl d24_27 30 (by decide) (W := 0) (Nat.le_of_eq rfl) (by decide) (fun T7 h7 L7 X7 e7 N7 Kq7 V7 => ?_)
  have K7 := K2.trans Kq7 (allS (Or.inr sz_b2) all0)
  refine g_aload C X7 d24_30 32 rfl rfl ?_
  exact g_retA C X7 K rfl rfl rfl d24_32 (by decide) (by decide) e7 ⟨b2, ki2, rfl, N7, sz_b2, K7, V7⟩
def Q23_3_2_3 (Z : State) (o1 : Addr) (kd1 : ClassId) (c1 : Int32) (c2 : Int32) (c3 : Int32) (h0 : Heap) (n0 : Nat) (v : Option Value) (h : Heap) (L : List Loc) : Prop := ∃ (o3 : Addr) (kd3 : ClassId), v = some (.ref o3) ∧ Fr n0 L ∧ h0.size ≤ o3 ∧ Keep h0 h [] ∧ Arv Z h o3 kd3 .byte 1 [(.int c3)] (.int 0)
theorem rm23_3_2_3 {o1 : Addr} {kd1 : ClassId} {c1 c2 c3 : Int32} (hw : OwnW a0 Z) (Z0 : n0 ≤ h0.size) (F0 : Arv Z h0 o1 kd1 .byte 3 [(.int c1), (.int c2), (.int c3)] (.int 0)) : OwnMF l Z y23 jdk_65_method_132_code 3 (some (.array .byte)) ws ⟨2, 1, 1, 34⟩ #[(.ref o1), (.int 2), (.int 3)] h0 (Q23_3_2_3 Z o1 kd1 c1 c2 c3 h0 n0) := by
  refine bo (plainFor_of_name pn_23) ?_
  intro p e s m below meth c T0 G C hnm hnamed X0 e0 K
  have N0 := Fr.nil n0
  refine Goes.to (congrArg T0.setTop (ef_23rii m o1 (2 : Int32) (3 : Int32))) ?_
  have K00 := Keep.refl h0 []
  refine g_iloadN C X0 d23_0 1 rfl ?_
  refine g_if_ne C X0 d23_1 10 4 (fun hc1 => ?_) (fun hc1 => absurd hc1 (by decide))
  refine g_aloadN C X0 d23_10 11 rfl rfl ?_
  refine g_iloadN C X0 d23_11 12 rfl ?_
  refine g_iloadN C X0 d23_12 13 rfl ?_
  refine g_callS C X0 (w_106 hw) (w_107 hw) (w_104 hw) (w_108 hw) d23_13 [(.ref o1), (.int 2), (.int 3)] [] 0 (rm24_3_2_3 hw Z0 F0) pd_12 e0 16 (fun u1 T1 L1 X1 hQ1 => ?_)
  obtain ⟨o31, kd31, rfl, Nq1, szo31, Kq1, q1_0⟩ := hQ1
  have N1 := Fr.app N0 Nq1
  have sz_o31 : h0.size ≤ o31 := Nat.le_trans K00.1 szo31
  have K1 := K00.trans Kq1 all0
  refine ret1 ?_
  exact g_retA C X1 K rfl rfl rfl d23_16 (by decide) (by decide) rfl ⟨o31, kd31, rfl, N1, sz_o31, K1, q1_0⟩
def Q22_3_2_1 (Z : State) (o1 : Addr) (kd1 : ClassId) (c1 : Int32) (c2 : Int32) (c3 : Int32) (h0 : Heap) (n0 : Nat) (v : Option Value) (h : Heap) (L : List Loc) : Prop := ∃ (o3 : Addr) (o4 : Addr) (kd3 : ClassId), v = some (.ref o3) ∧ Fr n0 L ∧ h0.size ≤ o3 ∧ h0.size ≤ o4 ∧ Keep h0 h [] ∧ OEs Z h o3 ∧ OFv Z h o3 (.ref o4) ∧ OFc Z h o3 ∧ Arv Z h o4 kd3 .byte 1 [(.int c3)] (.int 0)
theorem rm22_3_2_1 {o1 : Addr} {kd1 : ClassId} {c1 c2 c3 : Int32} (hw : OwnW a0 Z) (Z0 : n0 ≤ h0.size) (F0 : Arv Z h0 o1 kd1 .byte 3 [(.int c1), (.int c2), (.int c3)] (.int 0)) : OwnMF l Z y22 jdk_43_method_47_code 3 (some (.object "java/lang/String")) ws ⟨3, 2, 5, 50⟩ #[(.ref o1), (.int 2), (.int 1)] h0 (Q22_3_2_1 Z o1 kd1 c1 c2 c3 h0 n0) := by
  refine bo (plainFor_of_name pn_18) ?_
  intro p e s m below meth c T0 G C hnm hnamed X0 e0 K
  have N0 := Fr.nil n0
  refine Goes.to (congrArg T0.setTop (ef_22rii m o1 (2 : Int32) (1 : Int32))) ?_
  have K00 := Keep.refl h0 []
  refine g_iloadN C X0 d22_0 1 rfl ?_
  refine g_if_ne C X0 d22_1 7 4 (fun hc1 => ?_) (fun hc1 => absurd hc1 (by decide))
  refine g_new C X0 (w_101 hw) (w_7 hw) (w_8 hw) e0 d22_7 10 (by decide) (by decide) (fun T1 h1 b1 X1 e1 g1 E1 A1 D1 => ?_)
  have f3 := F0.ext E1
  have gn_b1 : n0 ≤ b1 := Nat.le_trans Z0 (Nat.le_of_eq g1.symm)
  have Z1 := Nat.le_trans Z0 E1.1
  have sz_b1 : h0.size ≤ b1 := Nat.le_trans K00.1 (Nat.le_of_eq g1.symm)
  have K1 := K00.ext E1
  have f4 : OFv Z h1 b1 .null := D1 (Or.inr (w_21 hw)) (ty := (.array .byte)) (by decide)
  have f5 : OFc Z h1 b1 := D1 (Or.inr (w_22 hw)) (ty := .byte) (by decide)
  refine g_dup C X1 d22_10 11 rfl ?_
  refine g_aloadN C X1 d22_11 12 rfl rfl ?_
  refine g_iloadN C X1 d22_12 13 rfl ?_
  refine g_iloadN C X1 d22_13 14 rfl ?_
  refine g_iloadN C X1 d22_14 15 rfl ?_
  refine g_iadd C X1 d22_15 16 ?_
  rw [show (2 : Int32) + 1 = 3 from by decide]
  refine g_callS C X1 (w_102 hw) (w_103 hw) (w_104 hw) (w_105 hw) d22_16 [(.ref o1), (.int 2), (.int 3)] [(.ref b1), (.ref b1)] 2 (rm23_3_2_3 hw Z1 f3) pd_12 e1 19 (fun u6 T6 L6 X6 hQ6 => ?_)
  obtain ⟨o36, kd36, rfl, Nq6, szo36, Kq6, q6_0⟩ := hQ6
  have N6 := Fr.app N0 Nq6
  have n7 : b1 ≠ o36 := Nat.ne_of_lt (Nat.lt_of_lt_of_le A1.lt szo36)
  have f10 := A1.keep Kq6
  have f11 := f4.keep Kq6 nin0
  have f12 := f5.keep Kq6 nin0
  have Z6 := Nat.le_trans Z1 Kq6.1
  have sz_o36 : h0.size ≤ o36 := Nat.le_trans K1.1 szo36
  have K6 := K1.trans Kq6 all0
  refine ret1 ?_
  refine g_iconst C X6 d22_19 20 (v := 0) rfl ?_
  refine g_callI C X6 rfl (w_119 hw) (w_120 hw) (w_8 hw) (w_121 hw) d22_20 [(.ref o36), (.int 0)] [(.ref b1)] 1 (rm27 hw Z6 f10 f11 f12 gn_b1) pd_13 rfl 23 (fun u13 T13 L13 X13 hQ13 => ?_)
  obtain ⟨rfl, Nq13, Kq13, q13_0, q13_1, q13_2⟩ := hQ13
  have N13 := Fr.app N6 Nq13
  have f16 := q6_0.keep Kq13 (ninS (Ne.symm n7) nin0)
  have K13 := K6.trans Kq13 (allS (Or.inr sz_b1) all0)
  refine ret0 ?_
  exact g_retA C X13 K rfl rfl rfl d22_23 (by decide) (by decide) rfl ⟨b1, o36, kd36, rfl, N13, sz_b1, sz_o36, K13, q13_0, q13_1, q13_2, f16⟩
def Q9_3_2_3 (Z : State) (o1 : Addr) (o2 : Addr) (kd1 : ClassId) (c1 : Int32) (c2 : Int32) (c3 : Int32) (cs1 : Int32) (wf1 : Value) (h0 : Heap) (n0 : Nat) (v : Option Value) (h : Heap) (L : List Loc) : Prop := ∃ (o3 : Addr) (o4 : Addr) (kd3 : ClassId), v = some (.ref o3) ∧ Fr n0 L ∧ h0.size ≤ o3 ∧ h0.size ≤ o4 ∧ Keep h0 h [] ∧ OEs Z h o3 ∧ OFv Z h o3 (.ref o4) ∧ OFc Z h o3 ∧ Arv Z h o4 kd3 .byte 1 [(.int c3)] (.int 0)
theorem rm9_3_2_3 {o1 o2 : Addr} {kd1 : ClassId} {c1 c2 c3 cs1 : Int32} {wf1 : Value} (hw : OwnW a0 Z) (Z0 : n0 ≤ h0.size) (F0 : OEs Z h0 o1) (F1 : OFv Z h0 o1 (.ref o2)) (F2 : OFc Z h0 o1) (F3 : Arv Z h0 o2 kd1 .byte 3 [(.int c1), (.int c2), (.int c3)] (.int 0)) (F4 : OSc Z h0 cs1) (F5 : OSf Z h0 wf1) (hcs : ¬ cs1 = (0 : Int32)) (hwf : wf1.isRef = true) : OwnMF l Z y9 jdk_42_method_92_code 5 (some (.object "java/lang/String")) ws ⟨4, 2, 5, 64⟩ #[(.ref o1), (.int 2), (.int 3)] h0 (Q9_3_2_3 Z o1 o2 kd1 c1 c2 c3 cs1 wf1 h0 n0) := by
  refine bo (plainFor_of_name pn_2) ?_
  intro p e s m below meth c T0 G C hnm hnamed X0 e0 K
  have N0 := Fr.nil n0
  refine Goes.to (congrArg T0.setTop (ef_9rii m o1 (2 : Int32) (3 : Int32))) ?_
  have K00 := Keep.refl h0 []
  refine g_aloadN C X0 d9_0 1 rfl rfl ?_
  refine g_callV0 C X0 (b_6 hw) F0 d9_1 [] [] 0 (rm7_3 hw Z0 F0 F1 F2 F3 F4 hcs) N0 pd_6 e0 4 (fun T1 _ X1 N1 e1 => ?_)
  refine g_istoreN C X1 d9_4 5 (w := 3) rfl (ls' := #[rv o1, iv 2, iv 3, iv 3, uu]) rfl ?_
  refine g_iloadN C X1 d9_5 6 rfl ?_
  refine g_iloadN C X1 d9_6 7 rfl ?_
  refine g_iloadN C X1 d9_7 8 rfl ?_
  refine g_callSn C X1 (b_7 hw) d9_8 [(.int 2), (.int 3), (.int 3)] [] 0 (rm10 hw Z0 F5 hwf (by decide) (by decide) (by decide)) N1 pd_7 e1 11 (fun T2 _ X2 N2 e2 => ?_)
  refine g_iloadN C X2 d9_11 12 rfl ?_
  refine g_if_ne C X2 d9_12 22 15 (fun hc12 => ?_) (fun hc12 => absurd hc12 (by decide))
  refine g_iloadN C X2 d9_22 23 rfl ?_
  refine g_iloadN C X2 d9_23 24 rfl ?_
  refine g_isub C X2 d9_24 25 ?_
  rw [show (3 : Int32) - 2 = 1 from by decide]
  refine g_istore C X2 d9_25 27 (w := 1) rfl (ls' := #[rv o1, iv 2, iv 3, iv 3, iv 1]) rfl ?_
  refine g_aloadN C X2 d9_27 28 rfl rfl ?_
  refine g_callV0 C X2 (b_2 hw) F0 d9_28 [] [] 0 (rm17 hw Z0 F2 F4 hcs) N2 pd_2 e2 31 (fun T3 _ X3 N3 e3 => ?_)
  refine g_if_eq C X3 d9_31 47 34 (fun hc31 => absurd hc31 (by decide)) (fun hc31 => ?_)
  refine g_aloadN C X3 d9_34 35 rfl rfl ?_
  refine g_getF C X3 (w_25 hw) Via.refl e3 F1 d9_35 38 (fun T4 X4 e4 => ?_)
  refine g_iloadN C X4 d9_38 39 rfl ?_
  refine g_iload C X4 d9_39 41 rfl ?_
  refine g_callS C X4 (w_98 hw) (w_99 hw) (w_86 hw) (w_100 hw) d9_41 [(.ref o2), (.int 2), (.int 1)] [] 0 (rm22_3_2_1 hw Z0 F3) pd_14 e4 44 (fun u5 T5 L5 X5 hQ5 => ?_)
  obtain ⟨o35, o45, kd35, rfl, Nq5, szo35, szo45, Kq5, q5_0, q5_1, q5_2, q5_3⟩ := hQ5
  have N5 := Fr.app N3 Nq5
  have sz_o35 : h0.size ≤ o35 := Nat.le_trans K00.1 szo35
  have sz_o45 : h0.size ≤ o45 := Nat.le_trans K00.1 szo45
  have K5 := K00.trans Kq5 all0
  refine ret1 ?_
  refine g_goto C X5 d9_44 57 ?_
  exact g_retA C X5 K rfl rfl rfl d9_57 (by decide) (by decide) rfl ⟨o35, o45, kd35, rfl, N5, sz_o35, sz_o45, K5, q5_0, q5_1, q5_2, q5_3⟩
def Q6_3_2_3 (Z : State) (o1 : Addr) (o2 : Addr) (kd1 : ClassId) (c1 : Int32) (c2 : Int32) (c3 : Int32) (cs1 : Int32) (wf1 : Value) (h0 : Heap) (n0 : Nat) (v : Option Value) (h : Heap) (L : List Loc) : Prop := ∃ (o3 : Addr) (o4 : Addr) (kd3 : ClassId), v = some (.ref o3) ∧ Fr n0 L ∧ h0.size ≤ o3 ∧ h0.size ≤ o4 ∧ Keep h0 h [] ∧ OEs Z h o3 ∧ OFv Z h o3 (.ref o4) ∧ OFc Z h o3 ∧ Arv Z h o4 kd3 .byte 1 [(.int c3)] (.int 0)
theorem rm6_3_2_3 {o1 o2 : Addr} {kd1 : ClassId} {c1 c2 c3 cs1 : Int32} {wf1 : Value} (hw : OwnW a0 Z) (Z0 : n0 ≤ h0.size) (F0 : OEs Z h0 o1) (F1 : OFv Z h0 o1 (.ref o2)) (F2 : OFc Z h0 o1) (F3 : Arv Z h0 o2 kd1 .byte 3 [(.int c1), (.int c2), (.int c3)] (.int 0)) (F4 : OSc Z h0 cs1) (F5 : OSf Z h0 wf1) (hcs : ¬ cs1 = (0 : Int32)) (hwf : wf1.isRef = true) (hs1 : ¬ fIs (own_ch c1) = (0 : Int32)) (hs2 : ¬ fIs (own_ch c2) = (0 : Int32)) (hs3 : fIs (own_ch c3) = (0 : Int32)) : OwnMF l Z y6 prog_35_method_2_code 3 (some (.object "java/lang/String")) ws ⟨5, 2, 5, 80⟩ #[(.ref o1)] h0 (Q6_3_2_3 Z o1 o2 kd1 c1 c2 c3 cs1 wf1 h0 n0) := by
  refine bo (plainFor_of_name pn_6) ?_
  intro p e s m below meth c T0 G C hnm hnamed X0 e0 K
  have N0 := Fr.nil n0
  refine Goes.to (congrArg T0.setTop (ef_6r m o1)) ?_
  have K00 := Keep.refl h0 []
  refine g_iconst C X0 d6_0 1 (v := 0) rfl ?_
  refine g_istoreN C X0 d6_1 2 (w := 0) rfl (ls' := #[rv o1, iv 0, uu]) rfl ?_
  refine g_aloadN C X0 d6_2 3 rfl rfl ?_
  refine g_callV0 C X0 (b_8 hw) F0 d6_3 [] [] 0 (rm7_3 hw Z0 F0 F1 F2 F3 F4 hcs) N0 pd_6 e0 6 (fun T1 _ X1 N1 e1 => ?_)
  refine g_istoreN C X1 d6_6 7 (w := 3) rfl (ls' := #[rv o1, iv 0, iv 3]) rfl ?_
  refine g_iloadN C X1 d6_7 8 rfl ?_
  refine g_iloadN C X1 d6_8 9 rfl ?_
  refine g_icmp_ge C X1 d6_9 29 12 (fun hc9 => absurd hc9 (by decide)) (fun hc9 => ?_)
  refine g_aloadN C X1 d6_12 13 rfl rfl ?_
  refine g_iloadN C X1 d6_13 14 rfl ?_
  refine g_callV0 C X1 (b_10 hw) F0 d6_14 [(.int 0)] [] 0 (rm16_3_0 hw Z0 F0 F1 F2 F3 F4 F5 hcs hwf) N1 pd_9 e1 17 (fun T2 _ X2 N2 e2 => ?_)
  refine g_callS0 C X2 (b_11 hw) d6_17 [(.int (own_ch c1))] [] 0 (rm21 hw Z0) N2 pd_10 e2 20 (fun T3 _ X3 N3 e3 => ?_)
  refine g_if_eq C X3 d6_20 29 23 (fun hc20 => absurd hc20 hs1) (fun hc20 => ?_)
  refine g_iinc C X3 d6_23 26 rfl (w := 1) rfl (ls' := #[rv o1, iv 1, iv 3]) rfl ?_
  refine g_goto C X3 d6_26 7 ?_
  refine g_iloadN C X3 d6_7 8 rfl ?_
  refine g_iloadN C X3 d6_8 9 rfl ?_
  refine g_icmp_ge C X3 d6_9 29 12 (fun hc9 => absurd hc9 (by decide)) (fun hc9 => ?_)
  refine g_aloadN C X3 d6_12 13 rfl rfl ?_
  refine g_iloadN C X3 d6_13 14 rfl ?_
  refine g_callV0 C X3 (b_10 hw) F0 d6_14 [(.int 1)] [] 0 (rm16_3_1 hw Z0 F0 F1 F2 F3 F4 F5 hcs hwf) N3 pd_9 e3 17 (fun T4 _ X4 N4 e4 => ?_)
  refine g_callS0 C X4 (b_11 hw) d6_17 [(.int (own_ch c2))] [] 0 (rm21 hw Z0) N4 pd_10 e4 20 (fun T5 _ X5 N5 e5 => ?_)
  refine g_if_eq C X5 d6_20 29 23 (fun hc20 => absurd hc20 hs2) (fun hc20 => ?_)
  refine g_iinc C X5 d6_23 26 rfl (w := 2) rfl (ls' := #[rv o1, iv 2, iv 3]) rfl ?_
  refine g_goto C X5 d6_26 7 ?_
  refine g_iloadN C X5 d6_7 8 rfl ?_
  refine g_iloadN C X5 d6_8 9 rfl ?_
  refine g_icmp_ge C X5 d6_9 29 12 (fun hc9 => absurd hc9 (by decide)) (fun hc9 => ?_)
  refine g_aloadN C X5 d6_12 13 rfl rfl ?_
  refine g_iloadN C X5 d6_13 14 rfl ?_
  refine g_callV0 C X5 (b_10 hw) F0 d6_14 [(.int 2)] [] 0 (rm16_3_2 hw Z0 F0 F1 F2 F3 F4 F5 hcs hwf) N5 pd_9 e5 17 (fun T6 _ X6 N6 e6 => ?_)
  refine g_callS0 C X6 (b_11 hw) d6_17 [(.int (own_ch c3))] [] 0 (rm21 hw Z0) N6 pd_10 e6 20 (fun T7 _ X7 N7 e7 => ?_)
  refine g_if_eq C X7 d6_20 29 23 (fun hc20 => ?_) (fun hc20 => absurd hs3 hc20)
  refine g_iloadN C X7 d6_29 30 rfl ?_
  refine g_iloadN C X7 d6_30 31 rfl ?_
  refine g_icmp_le C X7 d6_31 53 34 (fun hc31 => absurd hc31 (by decide)) (fun hc31 => ?_)
  refine g_aloadN C X7 d6_34 35 rfl rfl ?_
  refine g_iloadN C X7 d6_35 36 rfl ?_
  refine g_iconst C X7 d6_36 37 (v := 1) rfl ?_
  refine g_isub C X7 d6_37 38 ?_
  rw [show (3 : Int32) - 1 = 2 from by decide]
  refine g_callV0 C X7 (b_10 hw) F0 d6_38 [(.int 2)] [] 0 (rm16_3_2 hw Z0 F0 F1 F2 F3 F4 F5 hcs hwf) N7 pd_9 e7 41 (fun T8 _ X8 N8 e8 => ?_)
  refine g_callS0 C X8 (b_11 hw) d6_41 [(.int (own_ch c3))] [] 0 (rm21 hw Z0) N8 pd_10 e8 44 (fun T9 _ X9 N9 e9 => ?_)
  refine g_if_eq C X9 d6_44 53 47 (fun hc44 => ?_) (fun hc44 => absurd hc20 hc44)
  refine g_aloadN C X9 d6_53 54 rfl rfl ?_
  refine g_iloadN C X9 d6_54 55 rfl ?_
  refine g_iloadN C X9 d6_55 56 rfl ?_
  refine g_callV C X9 (w_46 hw) (w_47 hw) (notFace_of_selects (args := #[]) (mvT C.2.1 (w_49 hw))) (w_49 hw) (w_48 hw) (w_50 hw) (w_8 hw) F0 d6_56 [(.int 2), (.int 3)] [] 0 (rm9_3_2_3 hw Z0 F0 F1 F2 F3 F4 F5 hcs hwf) pd_8 e9 59 (fun u10 T10 L10 X10 hQ10 => ?_)
  obtain ⟨o310, o410, kd310, rfl, Nq10, szo310, szo410, Kq10, q10_0, q10_1, q10_2, q10_3⟩ := hQ10
  have N10 := Fr.app N9 Nq10
  have sz_o310 : h0.size ≤ o310 := Nat.le_trans K00.1 szo310
  have sz_o410 : h0.size ≤ o410 := Nat.le_trans K00.1 szo410
  have K10 := K00.trans Kq10 all0
  refine ret1 ?_
  exact g_retA C X10 K rfl rfl rfl d6_59 (by decide) (by decide) rfl ⟨o310, o410, kd310, rfl, N10, sz_o310, sz_o410, K10, q10_0, q10_1, q10_2, q10_3⟩
theorem rm20_4_0n  (hw : OwnW a0 Z) (Z0 : n0 ≤ h0.size) : OwnMF l Z y20 jdk_41_method_11_code 3 (some .int) ws ⟨0, 0, 0, 0⟩ #[(.int 0), (.int 4), .null] h0 (OwnQ (some (.int 0)) h0 n0) := by
  refine bo (plainFor_of_name pn_11) ?_
  intro p e s m below meth c T0 G C hnm hnamed X0 e0 K
  have N0 := Fr.nil n0
  refine Goes.to (congrArg T0.setTop (ef_20iin m (0 : Int32) (4 : Int32))) ?_
  refine g_iloadN C X0 d20_0 1 rfl ?_
  refine g_if_lt C X0 d20_1 9 4 (fun hc1 => absurd hc1 (by decide)) (fun hc1 => ?_)
  refine g_iloadN C X0 d20_4 5 rfl ?_
  refine g_iloadN C X0 d20_5 6 rfl ?_
  refine g_icmp_lt C X0 d20_6 16 9 (fun hc6 => ?_) (fun hc6 => absurd hc6 (by decide))
  refine g_iloadN C X0 d20_16 17 rfl ?_
  exact g_retI C X0 K d20_17 (by decide) (by decide) e0 ⟨rfl, N0, rfl⟩
theorem rm20_4_0r {o1 : Addr} (hw : OwnW a0 Z) (Z0 : n0 ≤ h0.size) : OwnMF l Z y20 jdk_41_method_11_code 3 (some .int) ws ⟨0, 0, 0, 0⟩ #[(.int 0), (.int 4), (.ref o1)] h0 (OwnQ (some (.int 0)) h0 n0) := by
  refine bo (plainFor_of_name pn_11) ?_
  intro p e s m below meth c T0 G C hnm hnamed X0 e0 K
  have N0 := Fr.nil n0
  refine Goes.to (congrArg T0.setTop (ef_20iir m (0 : Int32) (4 : Int32) o1)) ?_
  refine g_iloadN C X0 d20_0 1 rfl ?_
  refine g_if_lt C X0 d20_1 9 4 (fun hc1 => absurd hc1 (by decide)) (fun hc1 => ?_)
  refine g_iloadN C X0 d20_4 5 rfl ?_
  refine g_iloadN C X0 d20_5 6 rfl ?_
  refine g_icmp_lt C X0 d20_6 16 9 (fun hc6 => ?_) (fun hc6 => absurd hc6 (by decide))
  refine g_iloadN C X0 d20_16 17 rfl ?_
  exact g_retI C X0 K d20_17 (by decide) (by decide) e0 ⟨rfl, N0, rfl⟩
theorem rm19_4_0 {wf1 : Value} (hw : OwnW a0 Z) (Z0 : n0 ≤ h0.size) (F0 : OSf Z h0 wf1) (hwf : wf1.isRef = true) : OwnMF l Z y19 jdk_42_method_155_code 2 none ws ⟨1, 0, 0, 14⟩ #[(.int 0), (.int 4)] h0 (OwnQ none h0 n0) := by
  refine bo (plainFor_of_name pn_2) ?_
  intro p e s m below meth c T0 G C hnm hnamed X0 e0 K
  have N0 := Fr.nil n0
  refine Goes.to (congrArg T0.setTop (ef_19ii m (0 : Int32) (4 : Int32))) ?_
  rcases ref_cases hwf with rfl | ⟨sa1, rfl⟩
  · refine g_iloadN C X0 d19_0 1 rfl ?_
    refine g_iloadN C X0 d19_1 2 rfl ?_
    refine g_getS C X0 (w_55 hw) Via.refl e0 F0 d19_2 5 (fun T2 X2 e2 => ?_)
    refine g_callS0 C X2 (b_0 hw) d19_5 [(.int 0), (.int 4), .null] [] 0 (rm20_4_0n hw Z0 ) N0 pd_0 e2 8 (fun T3 _ X3 N3 e3 => ?_)
    refine g_pop C X3 d19_8 9 rfl ?_
    exact g_retV C X3 K d19_9 (by decide) (by decide) e3 ⟨rfl, N3, rfl⟩
  · refine g_iloadN C X0 d19_0 1 rfl ?_
    refine g_iloadN C X0 d19_1 2 rfl ?_
    refine g_getS C X0 (w_55 hw) Via.refl e0 F0 d19_2 5 (fun T4 X4 e4 => ?_)
    refine g_callS0 C X4 (b_0 hw) d19_5 [(.int 0), (.int 4), (.ref sa1)] [] 0 (rm20_4_0r hw Z0 ) N0 pd_0 e4 8 (fun T5 _ X5 N5 e5 => ?_)
    refine g_pop C X5 d19_8 9 rfl ?_
    exact g_retV C X5 K d19_9 (by decide) (by decide) e5 ⟨rfl, N5, rfl⟩
theorem rm18_4_0 {o1 : Addr} {kd1 : ClassId} {c1 c2 c3 c4 : Int32} {wf1 : Value} (hw : OwnW a0 Z) (Z0 : n0 ≤ h0.size) (F0 : Arv Z h0 o1 kd1 .byte 4 [(.int c1), (.int c2), (.int c3), (.int c4)] (.int 0)) (F1 : OSf Z h0 wf1) (hwf : wf1.isRef = true) : OwnMF l Z y18 jdk_43_method_2_code 2 (some .char) ws ⟨2, 0, 0, 27⟩ #[(.ref o1), (.int 0)] h0 (OwnQ (some (.int (own_ch c1))) h0 n0) := by
  refine bo (plainFor_of_name pn_18) ?_
  intro p e s m below meth c T0 G C hnm hnamed X0 e0 K
  have N0 := Fr.nil n0
  refine Goes.to (congrArg T0.setTop (ef_18ri m o1 (0 : Int32))) ?_
  refine g_iloadN C X0 d18_0 1 rfl ?_
  refine g_aloadN C X0 d18_1 2 rfl rfl ?_
  refine g_arraylength C X0 e0 F0 d18_2 3 ?_
  refine g_callSn C X0 (b_1 hw) d18_3 [(.int 0), (.int 4)] [] 0 (rm19_4_0 hw Z0 F1 hwf) N0 pd_1 e0 6 (fun T1 _ X1 N1 e1 => ?_)
  refine g_aloadN C X1 d18_6 7 rfl rfl ?_
  refine g_iloadN C X1 d18_7 8 rfl ?_
  refine g_baload C X1 e1 F0 (by decide) (v := (.int c1)) rfl d18_8 9 ?_
  refine g_sipush C X1 d18_9 12 (v := 255) rfl ?_
  refine g_iand C X1 d18_12 13 ?_
  refine g_i2c C X1 d18_13 14 ?_
  exact g_retN C X1 K (by simp) d18_14 (by decide) (by decide) e1 ⟨rfl, N1, rfl⟩
theorem rm16_4_0 {o1 o2 : Addr} {kd1 : ClassId} {c1 c2 c3 c4 cs1 : Int32} {wf1 : Value} (hw : OwnW a0 Z) (Z0 : n0 ≤ h0.size) (F0 : OEs Z h0 o1) (F1 : OFv Z h0 o1 (.ref o2)) (F2 : OFc Z h0 o1) (F3 : Arv Z h0 o2 kd1 .byte 4 [(.int c1), (.int c2), (.int c3), (.int c4)] (.int 0)) (F4 : OSc Z h0 cs1) (F5 : OSf Z h0 wf1) (hcs : ¬ cs1 = (0 : Int32)) (hwf : wf1.isRef = true) : OwnMF l Z y16 jdk_42_method_56_code 2 (some .char) ws ⟨3, 0, 0, 40⟩ #[(.ref o1), (.int 0)] h0 (OwnQ (some (.int (own_ch c1))) h0 n0) := by
  refine bo (plainFor_of_name pn_2) ?_
  intro p e s m below meth c T0 G C hnm hnamed X0 e0 K
  have N0 := Fr.nil n0
  refine Goes.to (congrArg T0.setTop (ef_16ri m o1 (0 : Int32))) ?_
  refine g_aloadN C X0 d16_0 1 rfl rfl ?_
  refine g_callV0 C X0 (b_2 hw) F0 d16_1 [] [] 0 (rm17 hw Z0 F2 F4 hcs) N0 pd_2 e0 4 (fun T1 _ X1 N1 e1 => ?_)
  refine g_if_eq C X1 d16_4 16 7 (fun hc4 => absurd hc4 (by decide)) (fun hc4 => ?_)
  refine g_aloadN C X1 d16_7 8 rfl rfl ?_
  refine g_getF C X1 (w_25 hw) Via.refl e1 F1 d16_8 11 (fun T2 X2 e2 => ?_)
  refine g_iloadN C X2 d16_11 12 rfl ?_
  refine g_callS0 C X2 (b_3 hw) d16_12 [(.ref o2), (.int 0)] [] 0 (rm18_4_0 hw Z0 F3 F5 hwf) N1 pd_3 e2 15 (fun T3 _ X3 N3 e3 => ?_)
  exact g_retN C X3 K (by simp) d16_15 (by decide) (by decide) e3 ⟨(by rw [own_narr]), N3, rfl⟩
theorem rm20_4_1n  (hw : OwnW a0 Z) (Z0 : n0 ≤ h0.size) : OwnMF l Z y20 jdk_41_method_11_code 3 (some .int) ws ⟨0, 0, 0, 0⟩ #[(.int 1), (.int 4), .null] h0 (OwnQ (some (.int 1)) h0 n0) := by
  refine bo (plainFor_of_name pn_11) ?_
  intro p e s m below meth c T0 G C hnm hnamed X0 e0 K
  have N0 := Fr.nil n0
  refine Goes.to (congrArg T0.setTop (ef_20iin m (1 : Int32) (4 : Int32))) ?_
  refine g_iloadN C X0 d20_0 1 rfl ?_
  refine g_if_lt C X0 d20_1 9 4 (fun hc1 => absurd hc1 (by decide)) (fun hc1 => ?_)
  refine g_iloadN C X0 d20_4 5 rfl ?_
  refine g_iloadN C X0 d20_5 6 rfl ?_
  refine g_icmp_lt C X0 d20_6 16 9 (fun hc6 => ?_) (fun hc6 => absurd hc6 (by decide))
  refine g_iloadN C X0 d20_16 17 rfl ?_
  exact g_retI C X0 K d20_17 (by decide) (by decide) e0 ⟨rfl, N0, rfl⟩
theorem rm20_4_1r {o1 : Addr} (hw : OwnW a0 Z) (Z0 : n0 ≤ h0.size) : OwnMF l Z y20 jdk_41_method_11_code 3 (some .int) ws ⟨0, 0, 0, 0⟩ #[(.int 1), (.int 4), (.ref o1)] h0 (OwnQ (some (.int 1)) h0 n0) := by
  refine bo (plainFor_of_name pn_11) ?_
  intro p e s m below meth c T0 G C hnm hnamed X0 e0 K
  have N0 := Fr.nil n0
  refine Goes.to (congrArg T0.setTop (ef_20iir m (1 : Int32) (4 : Int32) o1)) ?_
  refine g_iloadN C X0 d20_0 1 rfl ?_
  refine g_if_lt C X0 d20_1 9 4 (fun hc1 => absurd hc1 (by decide)) (fun hc1 => ?_)
  refine g_iloadN C X0 d20_4 5 rfl ?_
  refine g_iloadN C X0 d20_5 6 rfl ?_
  refine g_icmp_lt C X0 d20_6 16 9 (fun hc6 => ?_) (fun hc6 => absurd hc6 (by decide))
  refine g_iloadN C X0 d20_16 17 rfl ?_
  exact g_retI C X0 K d20_17 (by decide) (by decide) e0 ⟨rfl, N0, rfl⟩
theorem rm19_4_1 {wf1 : Value} (hw : OwnW a0 Z) (Z0 : n0 ≤ h0.size) (F0 : OSf Z h0 wf1) (hwf : wf1.isRef = true) : OwnMF l Z y19 jdk_42_method_155_code 2 none ws ⟨1, 0, 0, 14⟩ #[(.int 1), (.int 4)] h0 (OwnQ none h0 n0) := by
  refine bo (plainFor_of_name pn_2) ?_
  intro p e s m below meth c T0 G C hnm hnamed X0 e0 K
  have N0 := Fr.nil n0
  refine Goes.to (congrArg T0.setTop (ef_19ii m (1 : Int32) (4 : Int32))) ?_
  rcases ref_cases hwf with rfl | ⟨sa1, rfl⟩
  · refine g_iloadN C X0 d19_0 1 rfl ?_
    refine g_iloadN C X0 d19_1 2 rfl ?_
    refine g_getS C X0 (w_55 hw) Via.refl e0 F0 d19_2 5 (fun T2 X2 e2 => ?_)
    refine g_callS0 C X2 (b_0 hw) d19_5 [(.int 1), (.int 4), .null] [] 0 (rm20_4_1n hw Z0 ) N0 pd_0 e2 8 (fun T3 _ X3 N3 e3 => ?_)
    refine g_pop C X3 d19_8 9 rfl ?_
    exact g_retV C X3 K d19_9 (by decide) (by decide) e3 ⟨rfl, N3, rfl⟩
  · refine g_iloadN C X0 d19_0 1 rfl ?_
    refine g_iloadN C X0 d19_1 2 rfl ?_
    refine g_getS C X0 (w_55 hw) Via.refl e0 F0 d19_2 5 (fun T4 X4 e4 => ?_)
    refine g_callS0 C X4 (b_0 hw) d19_5 [(.int 1), (.int 4), (.ref sa1)] [] 0 (rm20_4_1r hw Z0 ) N0 pd_0 e4 8 (fun T5 _ X5 N5 e5 => ?_)
    refine g_pop C X5 d19_8 9 rfl ?_
    exact g_retV C X5 K d19_9 (by decide) (by decide) e5 ⟨rfl, N5, rfl⟩
theorem rm18_4_1 {o1 : Addr} {kd1 : ClassId} {c1 c2 c3 c4 : Int32} {wf1 : Value} (hw : OwnW a0 Z) (Z0 : n0 ≤ h0.size) (F0 : Arv Z h0 o1 kd1 .byte 4 [(.int c1), (.int c2), (.int c3), (.int c4)] (.int 0)) (F1 : OSf Z h0 wf1) (hwf : wf1.isRef = true) : OwnMF l Z y18 jdk_43_method_2_code 2 (some .char) ws ⟨2, 0, 0, 27⟩ #[(.ref o1), (.int 1)] h0 (OwnQ (some (.int (own_ch c2))) h0 n0) := by
  refine bo (plainFor_of_name pn_18) ?_
  intro p e s m below meth c T0 G C hnm hnamed X0 e0 K
  have N0 := Fr.nil n0
  refine Goes.to (congrArg T0.setTop (ef_18ri m o1 (1 : Int32))) ?_
  refine g_iloadN C X0 d18_0 1 rfl ?_
  refine g_aloadN C X0 d18_1 2 rfl rfl ?_
  refine g_arraylength C X0 e0 F0 d18_2 3 ?_
  refine g_callSn C X0 (b_1 hw) d18_3 [(.int 1), (.int 4)] [] 0 (rm19_4_1 hw Z0 F1 hwf) N0 pd_1 e0 6 (fun T1 _ X1 N1 e1 => ?_)
  refine g_aloadN C X1 d18_6 7 rfl rfl ?_
  refine g_iloadN C X1 d18_7 8 rfl ?_
  refine g_baload C X1 e1 F0 (by decide) (v := (.int c2)) rfl d18_8 9 ?_
  refine g_sipush C X1 d18_9 12 (v := 255) rfl ?_
  refine g_iand C X1 d18_12 13 ?_
  refine g_i2c C X1 d18_13 14 ?_
  exact g_retN C X1 K (by simp) d18_14 (by decide) (by decide) e1 ⟨rfl, N1, rfl⟩
theorem rm16_4_1 {o1 o2 : Addr} {kd1 : ClassId} {c1 c2 c3 c4 cs1 : Int32} {wf1 : Value} (hw : OwnW a0 Z) (Z0 : n0 ≤ h0.size) (F0 : OEs Z h0 o1) (F1 : OFv Z h0 o1 (.ref o2)) (F2 : OFc Z h0 o1) (F3 : Arv Z h0 o2 kd1 .byte 4 [(.int c1), (.int c2), (.int c3), (.int c4)] (.int 0)) (F4 : OSc Z h0 cs1) (F5 : OSf Z h0 wf1) (hcs : ¬ cs1 = (0 : Int32)) (hwf : wf1.isRef = true) : OwnMF l Z y16 jdk_42_method_56_code 2 (some .char) ws ⟨3, 0, 0, 40⟩ #[(.ref o1), (.int 1)] h0 (OwnQ (some (.int (own_ch c2))) h0 n0) := by
  refine bo (plainFor_of_name pn_2) ?_
  intro p e s m below meth c T0 G C hnm hnamed X0 e0 K
  have N0 := Fr.nil n0
  refine Goes.to (congrArg T0.setTop (ef_16ri m o1 (1 : Int32))) ?_
  refine g_aloadN C X0 d16_0 1 rfl rfl ?_
  refine g_callV0 C X0 (b_2 hw) F0 d16_1 [] [] 0 (rm17 hw Z0 F2 F4 hcs) N0 pd_2 e0 4 (fun T1 _ X1 N1 e1 => ?_)
  refine g_if_eq C X1 d16_4 16 7 (fun hc4 => absurd hc4 (by decide)) (fun hc4 => ?_)
  refine g_aloadN C X1 d16_7 8 rfl rfl ?_
  refine g_getF C X1 (w_25 hw) Via.refl e1 F1 d16_8 11 (fun T2 X2 e2 => ?_)
  refine g_iloadN C X2 d16_11 12 rfl ?_
  refine g_callS0 C X2 (b_3 hw) d16_12 [(.ref o2), (.int 1)] [] 0 (rm18_4_1 hw Z0 F3 F5 hwf) N1 pd_3 e2 15 (fun T3 _ X3 N3 e3 => ?_)
  exact g_retN C X3 K (by simp) d16_15 (by decide) (by decide) e3 ⟨(by rw [own_narr]), N3, rfl⟩
theorem rm20_4_2n  (hw : OwnW a0 Z) (Z0 : n0 ≤ h0.size) : OwnMF l Z y20 jdk_41_method_11_code 3 (some .int) ws ⟨0, 0, 0, 0⟩ #[(.int 2), (.int 4), .null] h0 (OwnQ (some (.int 2)) h0 n0) := by
  refine bo (plainFor_of_name pn_11) ?_
  intro p e s m below meth c T0 G C hnm hnamed X0 e0 K
  have N0 := Fr.nil n0
  refine Goes.to (congrArg T0.setTop (ef_20iin m (2 : Int32) (4 : Int32))) ?_
  refine g_iloadN C X0 d20_0 1 rfl ?_
  refine g_if_lt C X0 d20_1 9 4 (fun hc1 => absurd hc1 (by decide)) (fun hc1 => ?_)
  refine g_iloadN C X0 d20_4 5 rfl ?_
  refine g_iloadN C X0 d20_5 6 rfl ?_
  refine g_icmp_lt C X0 d20_6 16 9 (fun hc6 => ?_) (fun hc6 => absurd hc6 (by decide))
  refine g_iloadN C X0 d20_16 17 rfl ?_
  exact g_retI C X0 K d20_17 (by decide) (by decide) e0 ⟨rfl, N0, rfl⟩
theorem rm20_4_2r {o1 : Addr} (hw : OwnW a0 Z) (Z0 : n0 ≤ h0.size) : OwnMF l Z y20 jdk_41_method_11_code 3 (some .int) ws ⟨0, 0, 0, 0⟩ #[(.int 2), (.int 4), (.ref o1)] h0 (OwnQ (some (.int 2)) h0 n0) := by
  refine bo (plainFor_of_name pn_11) ?_
  intro p e s m below meth c T0 G C hnm hnamed X0 e0 K
  have N0 := Fr.nil n0
  refine Goes.to (congrArg T0.setTop (ef_20iir m (2 : Int32) (4 : Int32) o1)) ?_
  refine g_iloadN C X0 d20_0 1 rfl ?_
  refine g_if_lt C X0 d20_1 9 4 (fun hc1 => absurd hc1 (by decide)) (fun hc1 => ?_)
  refine g_iloadN C X0 d20_4 5 rfl ?_
  refine g_iloadN C X0 d20_5 6 rfl ?_
  refine g_icmp_lt C X0 d20_6 16 9 (fun hc6 => ?_) (fun hc6 => absurd hc6 (by decide))
  refine g_iloadN C X0 d20_16 17 rfl ?_
  exact g_retI C X0 K d20_17 (by decide) (by decide) e0 ⟨rfl, N0, rfl⟩
theorem rm19_4_2 {wf1 : Value} (hw : OwnW a0 Z) (Z0 : n0 ≤ h0.size) (F0 : OSf Z h0 wf1) (hwf : wf1.isRef = true) : OwnMF l Z y19 jdk_42_method_155_code 2 none ws ⟨1, 0, 0, 14⟩ #[(.int 2), (.int 4)] h0 (OwnQ none h0 n0) := by
  refine bo (plainFor_of_name pn_2) ?_
  intro p e s m below meth c T0 G C hnm hnamed X0 e0 K
  have N0 := Fr.nil n0
  refine Goes.to (congrArg T0.setTop (ef_19ii m (2 : Int32) (4 : Int32))) ?_
  rcases ref_cases hwf with rfl | ⟨sa1, rfl⟩
  · refine g_iloadN C X0 d19_0 1 rfl ?_
    refine g_iloadN C X0 d19_1 2 rfl ?_
    refine g_getS C X0 (w_55 hw) Via.refl e0 F0 d19_2 5 (fun T2 X2 e2 => ?_)
    refine g_callS0 C X2 (b_0 hw) d19_5 [(.int 2), (.int 4), .null] [] 0 (rm20_4_2n hw Z0 ) N0 pd_0 e2 8 (fun T3 _ X3 N3 e3 => ?_)
    refine g_pop C X3 d19_8 9 rfl ?_
    exact g_retV C X3 K d19_9 (by decide) (by decide) e3 ⟨rfl, N3, rfl⟩
  · refine g_iloadN C X0 d19_0 1 rfl ?_
    refine g_iloadN C X0 d19_1 2 rfl ?_
    refine g_getS C X0 (w_55 hw) Via.refl e0 F0 d19_2 5 (fun T4 X4 e4 => ?_)
    refine g_callS0 C X4 (b_0 hw) d19_5 [(.int 2), (.int 4), (.ref sa1)] [] 0 (rm20_4_2r hw Z0 ) N0 pd_0 e4 8 (fun T5 _ X5 N5 e5 => ?_)
    refine g_pop C X5 d19_8 9 rfl ?_
    exact g_retV C X5 K d19_9 (by decide) (by decide) e5 ⟨rfl, N5, rfl⟩
theorem rm18_4_2 {o1 : Addr} {kd1 : ClassId} {c1 c2 c3 c4 : Int32} {wf1 : Value} (hw : OwnW a0 Z) (Z0 : n0 ≤ h0.size) (F0 : Arv Z h0 o1 kd1 .byte 4 [(.int c1), (.int c2), (.int c3), (.int c4)] (.int 0)) (F1 : OSf Z h0 wf1) (hwf : wf1.isRef = true) : OwnMF l Z y18 jdk_43_method_2_code 2 (some .char) ws ⟨2, 0, 0, 27⟩ #[(.ref o1), (.int 2)] h0 (OwnQ (some (.int (own_ch c3))) h0 n0) := by
  refine bo (plainFor_of_name pn_18) ?_
  intro p e s m below meth c T0 G C hnm hnamed X0 e0 K
  have N0 := Fr.nil n0
  refine Goes.to (congrArg T0.setTop (ef_18ri m o1 (2 : Int32))) ?_
  refine g_iloadN C X0 d18_0 1 rfl ?_
  refine g_aloadN C X0 d18_1 2 rfl rfl ?_
  refine g_arraylength C X0 e0 F0 d18_2 3 ?_
  refine g_callSn C X0 (b_1 hw) d18_3 [(.int 2), (.int 4)] [] 0 (rm19_4_2 hw Z0 F1 hwf) N0 pd_1 e0 6 (fun T1 _ X1 N1 e1 => ?_)
  refine g_aloadN C X1 d18_6 7 rfl rfl ?_
  refine g_iloadN C X1 d18_7 8 rfl ?_
  refine g_baload C X1 e1 F0 (by decide) (v := (.int c3)) rfl d18_8 9 ?_
  refine g_sipush C X1 d18_9 12 (v := 255) rfl ?_
  refine g_iand C X1 d18_12 13 ?_
  refine g_i2c C X1 d18_13 14 ?_
  exact g_retN C X1 K (by simp) d18_14 (by decide) (by decide) e1 ⟨rfl, N1, rfl⟩
theorem rm16_4_2 {o1 o2 : Addr} {kd1 : ClassId} {c1 c2 c3 c4 cs1 : Int32} {wf1 : Value} (hw : OwnW a0 Z) (Z0 : n0 ≤ h0.size) (F0 : OEs Z h0 o1) (F1 : OFv Z h0 o1 (.ref o2)) (F2 : OFc Z h0 o1) (F3 : Arv Z h0 o2 kd1 .byte 4 [(.int c1), (.int c2), (.int c3), (.int c4)] (.int 0)) (F4 : OSc Z h0 cs1) (F5 : OSf Z h0 wf1) (hcs : ¬ cs1 = (0 : Int32)) (hwf : wf1.isRef = true) : OwnMF l Z y16 jdk_42_method_56_code 2 (some .char) ws ⟨3, 0, 0, 40⟩ #[(.ref o1), (.int 2)] h0 (OwnQ (some (.int (own_ch c3))) h0 n0) := by
  refine bo (plainFor_of_name pn_2) ?_
  intro p e s m below meth c T0 G C hnm hnamed X0 e0 K
  have N0 := Fr.nil n0
  refine Goes.to (congrArg T0.setTop (ef_16ri m o1 (2 : Int32))) ?_
  refine g_aloadN C X0 d16_0 1 rfl rfl ?_
  refine g_callV0 C X0 (b_2 hw) F0 d16_1 [] [] 0 (rm17 hw Z0 F2 F4 hcs) N0 pd_2 e0 4 (fun T1 _ X1 N1 e1 => ?_)
  refine g_if_eq C X1 d16_4 16 7 (fun hc4 => absurd hc4 (by decide)) (fun hc4 => ?_)
  refine g_aloadN C X1 d16_7 8 rfl rfl ?_
  refine g_getF C X1 (w_25 hw) Via.refl e1 F1 d16_8 11 (fun T2 X2 e2 => ?_)
  refine g_iloadN C X2 d16_11 12 rfl ?_
  refine g_callS0 C X2 (b_3 hw) d16_12 [(.ref o2), (.int 2)] [] 0 (rm18_4_2 hw Z0 F3 F5 hwf) N1 pd_3 e2 15 (fun T3 _ X3 N3 e3 => ?_)
  exact g_retN C X3 K (by simp) d16_15 (by decide) (by decide) e3 ⟨(by rw [own_narr]), N3, rfl⟩
theorem rm20_4_3n  (hw : OwnW a0 Z) (Z0 : n0 ≤ h0.size) : OwnMF l Z y20 jdk_41_method_11_code 3 (some .int) ws ⟨0, 0, 0, 0⟩ #[(.int 3), (.int 4), .null] h0 (OwnQ (some (.int 3)) h0 n0) := by
  refine bo (plainFor_of_name pn_11) ?_
  intro p e s m below meth c T0 G C hnm hnamed X0 e0 K
  have N0 := Fr.nil n0
  refine Goes.to (congrArg T0.setTop (ef_20iin m (3 : Int32) (4 : Int32))) ?_
  refine g_iloadN C X0 d20_0 1 rfl ?_
  refine g_if_lt C X0 d20_1 9 4 (fun hc1 => absurd hc1 (by decide)) (fun hc1 => ?_)
  refine g_iloadN C X0 d20_4 5 rfl ?_
  refine g_iloadN C X0 d20_5 6 rfl ?_
  refine g_icmp_lt C X0 d20_6 16 9 (fun hc6 => ?_) (fun hc6 => absurd hc6 (by decide))
  refine g_iloadN C X0 d20_16 17 rfl ?_
  exact g_retI C X0 K d20_17 (by decide) (by decide) e0 ⟨rfl, N0, rfl⟩
theorem rm20_4_3r {o1 : Addr} (hw : OwnW a0 Z) (Z0 : n0 ≤ h0.size) : OwnMF l Z y20 jdk_41_method_11_code 3 (some .int) ws ⟨0, 0, 0, 0⟩ #[(.int 3), (.int 4), (.ref o1)] h0 (OwnQ (some (.int 3)) h0 n0) := by
  refine bo (plainFor_of_name pn_11) ?_
  intro p e s m below meth c T0 G C hnm hnamed X0 e0 K
  have N0 := Fr.nil n0
  refine Goes.to (congrArg T0.setTop (ef_20iir m (3 : Int32) (4 : Int32) o1)) ?_
  refine g_iloadN C X0 d20_0 1 rfl ?_
  refine g_if_lt C X0 d20_1 9 4 (fun hc1 => absurd hc1 (by decide)) (fun hc1 => ?_)
  refine g_iloadN C X0 d20_4 5 rfl ?_
  refine g_iloadN C X0 d20_5 6 rfl ?_
  refine g_icmp_lt C X0 d20_6 16 9 (fun hc6 => ?_) (fun hc6 => absurd hc6 (by decide))
  refine g_iloadN C X0 d20_16 17 rfl ?_
  exact g_retI C X0 K d20_17 (by decide) (by decide) e0 ⟨rfl, N0, rfl⟩
theorem rm19_4_3 {wf1 : Value} (hw : OwnW a0 Z) (Z0 : n0 ≤ h0.size) (F0 : OSf Z h0 wf1) (hwf : wf1.isRef = true) : OwnMF l Z y19 jdk_42_method_155_code 2 none ws ⟨1, 0, 0, 14⟩ #[(.int 3), (.int 4)] h0 (OwnQ none h0 n0) := by
  refine bo (plainFor_of_name pn_2) ?_
  intro p e s m below meth c T0 G C hnm hnamed X0 e0 K
  have N0 := Fr.nil n0
  refine Goes.to (congrArg T0.setTop (ef_19ii m (3 : Int32) (4 : Int32))) ?_
  rcases ref_cases hwf with rfl | ⟨sa1, rfl⟩
  · refine g_iloadN C X0 d19_0 1 rfl ?_
    refine g_iloadN C X0 d19_1 2 rfl ?_
    refine g_getS C X0 (w_55 hw) Via.refl e0 F0 d19_2 5 (fun T2 X2 e2 => ?_)
    refine g_callS0 C X2 (b_0 hw) d19_5 [(.int 3), (.int 4), .null] [] 0 (rm20_4_3n hw Z0 ) N0 pd_0 e2 8 (fun T3 _ X3 N3 e3 => ?_)
    refine g_pop C X3 d19_8 9 rfl ?_
    exact g_retV C X3 K d19_9 (by decide) (by decide) e3 ⟨rfl, N3, rfl⟩
  · refine g_iloadN C X0 d19_0 1 rfl ?_
    refine g_iloadN C X0 d19_1 2 rfl ?_
    refine g_getS C X0 (w_55 hw) Via.refl e0 F0 d19_2 5 (fun T4 X4 e4 => ?_)
    refine g_callS0 C X4 (b_0 hw) d19_5 [(.int 3), (.int 4), (.ref sa1)] [] 0 (rm20_4_3r hw Z0 ) N0 pd_0 e4 8 (fun T5 _ X5 N5 e5 => ?_)
    refine g_pop C X5 d19_8 9 rfl ?_
    exact g_retV C X5 K d19_9 (by decide) (by decide) e5 ⟨rfl, N5, rfl⟩
theorem rm18_4_3 {o1 : Addr} {kd1 : ClassId} {c1 c2 c3 c4 : Int32} {wf1 : Value} (hw : OwnW a0 Z) (Z0 : n0 ≤ h0.size) (F0 : Arv Z h0 o1 kd1 .byte 4 [(.int c1), (.int c2), (.int c3), (.int c4)] (.int 0)) (F1 : OSf Z h0 wf1) (hwf : wf1.isRef = true) : OwnMF l Z y18 jdk_43_method_2_code 2 (some .char) ws ⟨2, 0, 0, 27⟩ #[(.ref o1), (.int 3)] h0 (OwnQ (some (.int (own_ch c4))) h0 n0) := by
  refine bo (plainFor_of_name pn_18) ?_
  intro p e s m below meth c T0 G C hnm hnamed X0 e0 K
  have N0 := Fr.nil n0
  refine Goes.to (congrArg T0.setTop (ef_18ri m o1 (3 : Int32))) ?_
  refine g_iloadN C X0 d18_0 1 rfl ?_
  refine g_aloadN C X0 d18_1 2 rfl rfl ?_
  refine g_arraylength C X0 e0 F0 d18_2 3 ?_
  refine g_callSn C X0 (b_1 hw) d18_3 [(.int 3), (.int 4)] [] 0 (rm19_4_3 hw Z0 F1 hwf) N0 pd_1 e0 6 (fun T1 _ X1 N1 e1 => ?_)
  refine g_aloadN C X1 d18_6 7 rfl rfl ?_
  refine g_iloadN C X1 d18_7 8 rfl ?_
  refine g_baload C X1 e1 F0 (by decide) (v := (.int c4)) rfl d18_8 9 ?_
  refine g_sipush C X1 d18_9 12 (v := 255) rfl ?_
  refine g_iand C X1 d18_12 13 ?_
  refine g_i2c C X1 d18_13 14 ?_
  exact g_retN C X1 K (by simp) d18_14 (by decide) (by decide) e1 ⟨rfl, N1, rfl⟩
theorem rm16_4_3 {o1 o2 : Addr} {kd1 : ClassId} {c1 c2 c3 c4 cs1 : Int32} {wf1 : Value} (hw : OwnW a0 Z) (Z0 : n0 ≤ h0.size) (F0 : OEs Z h0 o1) (F1 : OFv Z h0 o1 (.ref o2)) (F2 : OFc Z h0 o1) (F3 : Arv Z h0 o2 kd1 .byte 4 [(.int c1), (.int c2), (.int c3), (.int c4)] (.int 0)) (F4 : OSc Z h0 cs1) (F5 : OSf Z h0 wf1) (hcs : ¬ cs1 = (0 : Int32)) (hwf : wf1.isRef = true) : OwnMF l Z y16 jdk_42_method_56_code 2 (some .char) ws ⟨3, 0, 0, 40⟩ #[(.ref o1), (.int 3)] h0 (OwnQ (some (.int (own_ch c4))) h0 n0) := by
  refine bo (plainFor_of_name pn_2) ?_
  intro p e s m below meth c T0 G C hnm hnamed X0 e0 K
  have N0 := Fr.nil n0
  refine Goes.to (congrArg T0.setTop (ef_16ri m o1 (3 : Int32))) ?_
  refine g_aloadN C X0 d16_0 1 rfl rfl ?_
  refine g_callV0 C X0 (b_2 hw) F0 d16_1 [] [] 0 (rm17 hw Z0 F2 F4 hcs) N0 pd_2 e0 4 (fun T1 _ X1 N1 e1 => ?_)
  refine g_if_eq C X1 d16_4 16 7 (fun hc4 => absurd hc4 (by decide)) (fun hc4 => ?_)
  refine g_aloadN C X1 d16_7 8 rfl rfl ?_
  refine g_getF C X1 (w_25 hw) Via.refl e1 F1 d16_8 11 (fun T2 X2 e2 => ?_)
  refine g_iloadN C X2 d16_11 12 rfl ?_
  refine g_callS0 C X2 (b_3 hw) d16_12 [(.ref o2), (.int 3)] [] 0 (rm18_4_3 hw Z0 F3 F5 hwf) N1 pd_3 e2 15 (fun T3 _ X3 N3 e3 => ?_)
  exact g_retN C X3 K (by simp) d16_15 (by decide) (by decide) e3 ⟨(by rw [own_narr]), N3, rfl⟩
theorem rm7_4 {o1 o2 : Addr} {kd1 : ClassId} {c1 c2 c3 c4 cs1 : Int32} (hw : OwnW a0 Z) (Z0 : n0 ≤ h0.size) (F0 : OEs Z h0 o1) (F1 : OFv Z h0 o1 (.ref o2)) (F2 : OFc Z h0 o1) (F3 : Arv Z h0 o2 kd1 .byte 4 [(.int c1), (.int c2), (.int c3), (.int c4)] (.int 0)) (F4 : OSc Z h0 cs1) (hcs : ¬ cs1 = (0 : Int32)) : OwnMF l Z y7 jdk_42_method_54_code 1 (some .int) ws ⟨1, 0, 0, 13⟩ #[(.ref o1)] h0 (OwnQ (some (.int 4)) h0 n0) := by
  refine bo (plainFor_of_name pn_2) ?_
  intro p e s m below meth c T0 G C hnm hnamed X0 e0 K
  have N0 := Fr.nil n0
  refine Goes.to (congrArg T0.setTop (ef_7r m o1)) ?_
  refine g_aloadN C X0 d7_0 1 rfl rfl ?_
  refine g_getF C X0 (w_25 hw) Via.refl e0 F1 d7_1 4 (fun T1 X1 e1 => ?_)
  refine g_arraylength C X1 e1 F3 d7_4 5 ?_
  refine g_aloadN C X1 d7_5 6 rfl rfl ?_
  refine g_callV0 C X1 (b_5 hw) F0 d7_6 [] [(.int 4)] 1 (rm8 hw Z0 F2 F4 hcs) N0 pd_5 e1 9 (fun T2 _ X2 N2 e2 => ?_)
  refine g_ishr C X2 d7_9 10 ?_
  exact g_retI C X2 K d7_10 (by decide) (by decide) e2 ⟨(by decide), N2, rfl⟩
def Q24_4_0_1 (Z : State) (o1 : Addr) (kd1 : ClassId) (c1 : Int32) (c2 : Int32) (c3 : Int32) (c4 : Int32) (h0 : Heap) (n0 : Nat) (v : Option Value) (h : Heap) (L : List Loc) : Prop := ∃ (o3 : Addr) (kd3 : ClassId), v = some (.ref o3) ∧ Fr n0 L ∧ h0.size ≤ o3 ∧ Keep h0 h [] ∧ Arv Z h o3 kd3 .byte 1 [(.int c1)] (.int 0)
theorem rm24_4_0_1 {o1 : Addr} {kd1 : ClassId} {c1 c2 c3 c4 : Int32} (hw : OwnW a0 Z) (Z0 : n0 ≤ h0.size) (F0 : Arv Z h0 o1 kd1 .byte 4 [(.int c1), (.int c2), (.int c3), (.int c4)] (.int 0)) : OwnMF l Z y24 jdk_65_method_133_code 5 (some (.array .byte)) ws ⟨1, 1, 1, 18⟩ #[(.ref o1), (.int 0), (.int 1)] h0 (Q24_4_0_1 Z o1 kd1 c1 c2 c3 c4 h0 n0) := by
  refine bo (plainFor_of_name pn_23) ?_
  intro p e s m below meth c T0 G C hnm hnamed X0 e0 K
  have N0 := Fr.nil n0
  refine Goes.to (congrArg T0.setTop (ef_24rii m o1 (0 : Int32) (1 : Int32))) ?_
  have K00 := Keep.refl h0 []
  refine g_iloadN C X0 d24_0 1 rfl ?_
  refine g_iloadN C X0 d24_1 2 rfl ?_
  refine g_callSn C X0 (b_12 hw) d24_2 [(.int 0), (.int 1)] [] 0 (rm25_0_1 hw Z0 ) N0 pd_1 e0 5 (fun T1 _ X1 N1 e1 => ?_)
  refine g_iloadN C X1 d24_5 6 rfl ?_
  refine g_iloadN C X1 d24_6 7 rfl ?_
  refine g_isub C X1 d24_7 8 ?_
  rw [show (1 : Int32) - 0 = 1 from by decide]
  refine g_istoreN C X1 d24_8 9 (w := 1) rfl (ls' := #[rv o1, iv 0, iv 1, iv 1, uu]) rfl ?_
  refine g_iloadN C X1 d24_9 10 rfl ?_
  refine g_newA (aty := .byte) (n := (1 : Int32)) C X1 (cap := 1) (w_20 hw) e1 d24_10 12 (by decide) (by decide) (by decide) (by decide) (by decide) (fun T2 h2 b2 ki2 X2 e2 g2 E2 A2 => ?_)
  have f4 := F0.ext E2
  have gn_b2 : n0 ≤ b2 := Nat.le_trans Z0 (Nat.le_of_eq g2.symm)
  have Z2 := Nat.le_trans Z0 E2.1
  have sz_b2 : h0.size ≤ b2 := Nat.le_trans K00.1 (Nat.le_of_eq g2.symm)
  have K2 := K00.ext E2
  have f5 : Arv Z h2 b2 ki2 .byte 1 [(.int 0)] (.int 0) := A2.pad (pad_rep [] (.int 0) 1)
  refine g_astore C X2 d24_12 14 rfl (ls' := #[rv o1, iv 0, iv 1, iv 1, rv b2]) rfl ?_
  refine g_aloadN C X2 d24_14 15 rfl rfl ?_
  refine g_iloadN C X2 d24_15 16 rfl ?_
  refine g_aload C X2 d24_16 18 rfl rfl ?_
  refine g_iconst C X2 d24_18 19 (v := 0) rfl ?_
  refine g_aloadN C X2 d24_19 20 rfl rfl ?_
  refine g_arraylength C X2 e2 f4 d24_20 21 ?_
  refine g_iloadN C X2 d24_21 22 rfl ?_
  refine g_isub C X2 d24_22 23 ?_
  rw [show (4 : Int32) - 0 = 4 from by decide]
  refine g_iloadN C X2 d24_23 24 rfl ?_
  refine g_callS0 C X2 (b_13 hw) d24_24 [(.int 4), (.int 1)] [(.int 0), (.ref b2), (.int 0), (.ref o1)] 4 (rm26 hw Z2) N1 pd_11 e2 27 (fun T6 _ X6 N6 e6 => ?_)
  rw [show fMin (4 : Int32) (1 : Int32) = (1 : Int32) from by decide]
  refine g_acopy C X6 (us := [(.int c1)]) (ur := [(.int c1)]) (w_115 hw) (w_118 hw) (w_116 hw) (w_117 hw) e6 f4 f5 rfl (by decide) (by decide) (by decide) (by decide) (by decide) rfl (by simp; try decide) rfl N6 gn_b2 rfl d24_27 30 (by decide) (W := 0) (Nat.le_of_eq rfl) (by decide) (fun T7 h7 L7 X7 e7 N7 Kq7 V7 => ?_)
  have K7 := K2.trans Kq7 (allS (Or.inr sz_b2) all0)
  refine g_aload C X7 d24_30 32 rfl rfl ?_
  exact g_retA C X7 K rfl rfl rfl d24_32 (by decide) (by decide) e7 ⟨b2, ki2, rfl, N7, sz_b2, K7, V7⟩
def Q23_4_0_1 (Z : State) (o1 : Addr) (kd1 : ClassId) (c1 : Int32) (c2 : Int32) (c3 : Int32) (c4 : Int32) (h0 : Heap) (n0 : Nat) (v : Option Value) (h : Heap) (L : List Loc) : Prop := ∃ (o3 : Addr) (kd3 : ClassId), v = some (.ref o3) ∧ Fr n0 L ∧ h0.size ≤ o3 ∧ Keep h0 h [] ∧ Arv Z h o3 kd3 .byte 1 [(.int c1)] (.int 0)
theorem rm23_4_0_1 {o1 : Addr} {kd1 : ClassId} {c1 c2 c3 c4 : Int32} (hw : OwnW a0 Z) (Z0 : n0 ≤ h0.size) (F0 : Arv Z h0 o1 kd1 .byte 4 [(.int c1), (.int c2), (.int c3), (.int c4)] (.int 0)) : OwnMF l Z y23 jdk_65_method_132_code 3 (some (.array .byte)) ws ⟨2, 1, 1, 34⟩ #[(.ref o1), (.int 0), (.int 1)] h0 (Q23_4_0_1 Z o1 kd1 c1 c2 c3 c4 h0 n0) := by
  refine bo (plainFor_of_name pn_23) ?_
  intro p e s m below meth c T0 G C hnm hnamed X0 e0 K
  have N0 := Fr.nil n0
  refine Goes.to (congrArg T0.setTop (ef_23rii m o1 (0 : Int32) (1 : Int32))) ?_
  have K00 := Keep.refl h0 []
  refine g_iloadN C X0 d23_0 1 rfl ?_
  refine g_if_ne C X0 d23_1 10 4 (fun hc1 => absurd hc1 (by decide)) (fun hc1 => ?_)
  refine g_iloadN C X0 d23_4 5 rfl ?_
  refine g_aloadN C X0 d23_5 6 rfl rfl ?_
  refine g_arraylength C X0 e0 F0 d23_6 7 ?_
  refine g_icmp_eq C X0 d23_7 17 10 (fun hc7 => absurd hc7 (by decide)) (fun hc7 => ?_)
  refine g_aloadN C X0 d23_10 11 rfl rfl ?_
  refine g_iloadN C X0 d23_11 12 rfl ?_
  refine g_iloadN C X0 d23_12 13 rfl ?_
  refine g_callS C X0 (w_106 hw) (w_107 hw) (w_104 hw) (w_108 hw) d23_13 [(.ref o1), (.int 0), (.int 1)] [] 0 (rm24_4_0_1 hw Z0 F0) pd_12 e0 16 (fun u1 T1 L1 X1 hQ1 => ?_)
  obtain ⟨o31, kd31, rfl, Nq1, szo31, Kq1, q1_0⟩ := hQ1
  have N1 := Fr.app N0 Nq1
  have sz_o31 : h0.size ≤ o31 := Nat.le_trans K00.1 szo31
  have K1 := K00.trans Kq1 all0
  refine ret1 ?_
  exact g_retA C X1 K rfl rfl rfl d23_16 (by decide) (by decide) rfl ⟨o31, kd31, rfl, N1, sz_o31, K1, q1_0⟩
def Q22_4_0_1 (Z : State) (o1 : Addr) (kd1 : ClassId) (c1 : Int32) (c2 : Int32) (c3 : Int32) (c4 : Int32) (h0 : Heap) (n0 : Nat) (v : Option Value) (h : Heap) (L : List Loc) : Prop := ∃ (o3 : Addr) (o4 : Addr) (kd3 : ClassId), v = some (.ref o3) ∧ Fr n0 L ∧ h0.size ≤ o3 ∧ h0.size ≤ o4 ∧ Keep h0 h [] ∧ OEs Z h o3 ∧ OFv Z h o3 (.ref o4) ∧ OFc Z h o3 ∧ Arv Z h o4 kd3 .byte 1 [(.int c1)] (.int 0)
theorem rm22_4_0_1 {o1 : Addr} {kd1 : ClassId} {c1 c2 c3 c4 : Int32} (hw : OwnW a0 Z) (Z0 : n0 ≤ h0.size) (F0 : Arv Z h0 o1 kd1 .byte 4 [(.int c1), (.int c2), (.int c3), (.int c4)] (.int 0)) : OwnMF l Z y22 jdk_43_method_47_code 3 (some (.object "java/lang/String")) ws ⟨3, 2, 5, 50⟩ #[(.ref o1), (.int 0), (.int 1)] h0 (Q22_4_0_1 Z o1 kd1 c1 c2 c3 c4 h0 n0) := by
  refine bo (plainFor_of_name pn_18) ?_
  intro p e s m below meth c T0 G C hnm hnamed X0 e0 K
  have N0 := Fr.nil n0
  refine Goes.to (congrArg T0.setTop (ef_22rii m o1 (0 : Int32) (1 : Int32))) ?_
  have K00 := Keep.refl h0 []
  refine g_iloadN C X0 d22_0 1 rfl ?_
  refine g_if_ne C X0 d22_1 7 4 (fun hc1 => ?_) (fun hc1 => absurd hc1 (by decide))
  refine g_new C X0 (w_101 hw) (w_7 hw) (w_8 hw) e0 d22_7 10 (by decide) (by decide) (fun T1 h1 b1 X1 e1 g1 E1 A1 D1 => ?_)
  have f3 := F0.ext E1
  have gn_b1 : n0 ≤ b1 := Nat.le_trans Z0 (Nat.le_of_eq g1.symm)
  have Z1 := Nat.le_trans Z0 E1.1
  have sz_b1 : h0.size ≤ b1 := Nat.le_trans K00.1 (Nat.le_of_eq g1.symm)
  have K1 := K00.ext E1
  have f4 : OFv Z h1 b1 .null := D1 (Or.inr (w_21 hw)) (ty := (.array .byte)) (by decide)
  have f5 : OFc Z h1 b1 := D1 (Or.inr (w_22 hw)) (ty := .byte) (by decide)
  refine g_dup C X1 d22_10 11 rfl ?_
  refine g_aloadN C X1 d22_11 12 rfl rfl ?_
  refine g_iloadN C X1 d22_12 13 rfl ?_
  refine g_iloadN C X1 d22_13 14 rfl ?_
  refine g_iloadN C X1 d22_14 15 rfl ?_
  refine g_iadd C X1 d22_15 16 ?_
  rw [show (0 : Int32) + 1 = 1 from by decide]
  refine g_callS C X1 (w_102 hw) (w_103 hw) (w_104 hw) (w_105 hw) d22_16 [(.ref o1), (.int 0), (.int 1)] [(.ref b1), (.ref b1)] 2 (rm23_4_0_1 hw Z1 f3) pd_12 e1 19 (fun u6 T6 L6 X6 hQ6 => ?_)
  obtain ⟨o36, kd36, rfl, Nq6, szo36, Kq6, q6_0⟩ := hQ6
  have N6 := Fr.app N0 Nq6
  have n7 : b1 ≠ o36 := Nat.ne_of_lt (Nat.lt_of_lt_of_le A1.lt szo36)
  have f10 := A1.keep Kq6
  have f11 := f4.keep Kq6 nin0
  have f12 := f5.keep Kq6 nin0
  have Z6 := Nat.le_trans Z1 Kq6.1
  have sz_o36 : h0.size ≤ o36 := Nat.le_trans K1.1 szo36
  have K6 := K1.trans Kq6 all0
  refine ret1 ?_
  refine g_iconst C X6 d22_19 20 (v := 0) rfl ?_
  refine g_callI C X6 rfl (w_119 hw) (w_120 hw) (w_8 hw) (w_121 hw) d22_20 [(.ref o36), (.int 0)] [(.ref b1)] 1 (rm27 hw Z6 f10 f11 f12 gn_b1) pd_13 rfl 23 (fun u13 T13 L13 X13 hQ13 => ?_)
  obtain ⟨rfl, Nq13, Kq13, q13_0, q13_1, q13_2⟩ := hQ13
  have N13 := Fr.app N6 Nq13
  have f16 := q6_0.keep Kq13 (ninS (Ne.symm n7) nin0)
  have K13 := K6.trans Kq13 (allS (Or.inr sz_b1) all0)
  refine ret0 ?_
  exact g_retA C X13 K rfl rfl rfl d22_23 (by decide) (by decide) rfl ⟨b1, o36, kd36, rfl, N13, sz_b1, sz_o36, K13, q13_0, q13_1, q13_2, f16⟩
def Q9_4_0_1 (Z : State) (o1 : Addr) (o2 : Addr) (kd1 : ClassId) (c1 : Int32) (c2 : Int32) (c3 : Int32) (c4 : Int32) (cs1 : Int32) (wf1 : Value) (h0 : Heap) (n0 : Nat) (v : Option Value) (h : Heap) (L : List Loc) : Prop := ∃ (o3 : Addr) (o4 : Addr) (kd3 : ClassId), v = some (.ref o3) ∧ Fr n0 L ∧ h0.size ≤ o3 ∧ h0.size ≤ o4 ∧ Keep h0 h [] ∧ OEs Z h o3 ∧ OFv Z h o3 (.ref o4) ∧ OFc Z h o3 ∧ Arv Z h o4 kd3 .byte 1 [(.int c1)] (.int 0)
theorem rm9_4_0_1 {o1 o2 : Addr} {kd1 : ClassId} {c1 c2 c3 c4 cs1 : Int32} {wf1 : Value} (hw : OwnW a0 Z) (Z0 : n0 ≤ h0.size) (F0 : OEs Z h0 o1) (F1 : OFv Z h0 o1 (.ref o2)) (F2 : OFc Z h0 o1) (F3 : Arv Z h0 o2 kd1 .byte 4 [(.int c1), (.int c2), (.int c3), (.int c4)] (.int 0)) (F4 : OSc Z h0 cs1) (F5 : OSf Z h0 wf1) (hcs : ¬ cs1 = (0 : Int32)) (hwf : wf1.isRef = true) : OwnMF l Z y9 jdk_42_method_92_code 5 (some (.object "java/lang/String")) ws ⟨4, 2, 5, 64⟩ #[(.ref o1), (.int 0), (.int 1)] h0 (Q9_4_0_1 Z o1 o2 kd1 c1 c2 c3 c4 cs1 wf1 h0 n0) := by
  refine bo (plainFor_of_name pn_2) ?_
  intro p e s m below meth c T0 G C hnm hnamed X0 e0 K
  have N0 := Fr.nil n0
  refine Goes.to (congrArg T0.setTop (ef_9rii m o1 (0 : Int32) (1 : Int32))) ?_
  have K00 := Keep.refl h0 []
  refine g_aloadN C X0 d9_0 1 rfl rfl ?_
  refine g_callV0 C X0 (b_6 hw) F0 d9_1 [] [] 0 (rm7_4 hw Z0 F0 F1 F2 F3 F4 hcs) N0 pd_6 e0 4 (fun T1 _ X1 N1 e1 => ?_)
  refine g_istoreN C X1 d9_4 5 (w := 4) rfl (ls' := #[rv o1, iv 0, iv 1, iv 4, uu]) rfl ?_
  refine g_iloadN C X1 d9_5 6 rfl ?_
  refine g_iloadN C X1 d9_6 7 rfl ?_
  refine g_iloadN C X1 d9_7 8 rfl ?_
  refine g_callSn C X1 (b_7 hw) d9_8 [(.int 0), (.int 1), (.int 4)] [] 0 (rm10 hw Z0 F5 hwf (by decide) (by decide) (by decide)) N1 pd_7 e1 11 (fun T2 _ X2 N2 e2 => ?_)
  refine g_iloadN C X2 d9_11 12 rfl ?_
  refine g_if_ne C X2 d9_12 22 15 (fun hc12 => absurd hc12 (by decide)) (fun hc12 => ?_)
  refine g_iloadN C X2 d9_15 16 rfl ?_
  refine g_iloadN C X2 d9_16 17 rfl ?_
  refine g_icmp_ne C X2 d9_17 22 20 (fun hc17 => ?_) (fun hc17 => absurd hc17 (by decide))
  refine g_iloadN C X2 d9_22 23 rfl ?_
  refine g_iloadN C X2 d9_23 24 rfl ?_
  refine g_isub C X2 d9_24 25 ?_
  rw [show (1 : Int32) - 0 = 1 from by decide]
  refine g_istore C X2 d9_25 27 (w := 1) rfl (ls' := #[rv o1, iv 0, iv 1, iv 4, iv 1]) rfl ?_
  refine g_aloadN C X2 d9_27 28 rfl rfl ?_
  refine g_callV0 C X2 (b_2 hw) F0 d9_28 [] [] 0 (rm17 hw Z0 F2 F4 hcs) N2 pd_2 e2 31 (fun T3 _ X3 N3 e3 => ?_)
  refine g_if_eq C X3 d9_31 47 34 (fun hc31 => absurd hc31 (by decide)) (fun hc31 => ?_)
  refine g_aloadN C X3 d9_34 35 rfl rfl ?_
  refine g_getF C X3 (w_25 hw) Via.refl e3 F1 d9_35 38 (fun T4 X4 e4 => ?_)
  refine g_iloadN C X4 d9_38 39 rfl ?_
  refine g_iload C X4 d9_39 41 rfl ?_
  refine g_callS C X4 (w_98 hw) (w_99 hw) (w_86 hw) (w_100 hw) d9_41 [(.ref o2), (.int 0), (.int 1)] [] 0 (rm22_4_0_1 hw Z0 F3) pd_14 e4 44 (fun u5 T5 L5 X5 hQ5 => ?_)
  obtain ⟨o35, o45, kd35, rfl, Nq5, szo35, szo45, Kq5, q5_0, q5_1, q5_2, q5_3⟩ := hQ5
  have N5 := Fr.app N3 Nq5
  have sz_o35 : h0.size ≤ o35 := Nat.le_trans K00.1 szo35
  have sz_o45 : h0.size ≤ o45 := Nat.le_trans K00.1 szo45
  have K5 := K00.trans Kq5 all0
  refine ret1 ?_
  refine g_goto C X5 d9_44 57 ?_
  exact g_retA C X5 K rfl rfl rfl d9_57 (by decide) (by decide) rfl ⟨o35, o45, kd35, rfl, N5, sz_o35, sz_o45, K5, q5_0, q5_1, q5_2, q5_3⟩
def Q6_4_0_1 (Z : State) (o1 : Addr) (o2 : Addr) (kd1 : ClassId) (c1 : Int32) (c2 : Int32) (c3 : Int32) (c4 : Int32) (cs1 : Int32) (wf1 : Value) (h0 : Heap) (n0 : Nat) (v : Option Value) (h : Heap) (L : List Loc) : Prop := ∃ (o3 : Addr) (o4 : Addr) (kd3 : ClassId), v = some (.ref o3) ∧ Fr n0 L ∧ h0.size ≤ o3 ∧ h0.size ≤ o4 ∧ Keep h0 h [] ∧ OEs Z h o3 ∧ OFv Z h o3 (.ref o4) ∧ OFc Z h o3 ∧ Arv Z h o4 kd3 .byte 1 [(.int c1)] (.int 0)
theorem rm6_4_0_1 {o1 o2 : Addr} {kd1 : ClassId} {c1 c2 c3 c4 cs1 : Int32} {wf1 : Value} (hw : OwnW a0 Z) (Z0 : n0 ≤ h0.size) (F0 : OEs Z h0 o1) (F1 : OFv Z h0 o1 (.ref o2)) (F2 : OFc Z h0 o1) (F3 : Arv Z h0 o2 kd1 .byte 4 [(.int c1), (.int c2), (.int c3), (.int c4)] (.int 0)) (F4 : OSc Z h0 cs1) (F5 : OSf Z h0 wf1) (hcs : ¬ cs1 = (0 : Int32)) (hwf : wf1.isRef = true) (hs1 : fIs (own_ch c1) = (0 : Int32)) (hs2 : ¬ fIs (own_ch c2) = (0 : Int32)) (hs3 : ¬ fIs (own_ch c3) = (0 : Int32)) (hs4 : ¬ fIs (own_ch c4) = (0 : Int32)) : OwnMF l Z y6 prog_35_method_2_code 3 (some (.object "java/lang/String")) ws ⟨5, 2, 5, 80⟩ #[(.ref o1)] h0 (Q6_4_0_1 Z o1 o2 kd1 c1 c2 c3 c4 cs1 wf1 h0 n0) := by
  refine bo (plainFor_of_name pn_6) ?_
  intro p e s m below meth c T0 G C hnm hnamed X0 e0 K
  have N0 := Fr.nil n0
  refine Goes.to (congrArg T0.setTop (ef_6r m o1)) ?_
  have K00 := Keep.refl h0 []
  refine g_iconst C X0 d6_0 1 (v := 0) rfl ?_
  refine g_istoreN C X0 d6_1 2 (w := 0) rfl (ls' := #[rv o1, iv 0, uu]) rfl ?_
  refine g_aloadN C X0 d6_2 3 rfl rfl ?_
  refine g_callV0 C X0 (b_8 hw) F0 d6_3 [] [] 0 (rm7_4 hw Z0 F0 F1 F2 F3 F4 hcs) N0 pd_6 e0 6 (fun T1 _ X1 N1 e1 => ?_)
  refine g_istoreN C X1 d6_6 7 (w := 4) rfl (ls' := #[rv o1, iv 0, iv 4]) rfl ?_
  refine g_iloadN C X1 d6_7 8 rfl ?_
  refine g_iloadN C X1 d6_8 9 rfl ?_
  refine g_icmp_ge C X1 d6_9 29 12 (fun hc9 => absurd hc9 (by decide)) (fun hc9 => ?_)
  refine g_aloadN C X1 d6_12 13 rfl rfl ?_
  refine g_iloadN C X1 d6_13 14 rfl ?_
  refine g_callV0 C X1 (b_10 hw) F0 d6_14 [(.int 0)] [] 0 (rm16_4_0 hw Z0 F0 F1 F2 F3 F4 F5 hcs hwf) N1 pd_9 e1 17 (fun T2 _ X2 N2 e2 => ?_)
  refine g_callS0 C X2 (b_11 hw) d6_17 [(.int (own_ch c1))] [] 0 (rm21 hw Z0) N2 pd_10 e2 20 (fun T3 _ X3 N3 e3 => ?_)
  refine g_if_eq C X3 d6_20 29 23 (fun hc20 => ?_) (fun hc20 => absurd hs1 hc20)
  refine g_iloadN C X3 d6_29 30 rfl ?_
  refine g_iloadN C X3 d6_30 31 rfl ?_
  refine g_icmp_le C X3 d6_31 53 34 (fun hc31 => absurd hc31 (by decide)) (fun hc31 => ?_)
  refine g_aloadN C X3 d6_34 35 rfl rfl ?_
  refine g_iloadN C X3 d6_35 36 rfl ?_
  refine g_iconst C X3 d6_36 37 (v := 1) rfl ?_
  refine g_isub C X3 d6_37 38 ?_
  rw [show (4 : Int32) - 1 = 3 from by decide]
  refine g_callV0 C X3 (b_10 hw) F0 d6_38 [(.int 3)] [] 0 (rm16_4_3 hw Z0 F0 F1 F2 F3 F4 F5 hcs hwf) N3 pd_9 e3 41 (fun T4 _ X4 N4 e4 => ?_)
  refine g_callS0 C X4 (b_11 hw) d6_41 [(.int (own_ch c4))] [] 0 (rm21 hw Z0) N4 pd_10 e4 44 (fun T5 _ X5 N5 e5 => ?_)
  refine g_if_eq C X5 d6_44 53 47 (fun hc44 => absurd hc44 hs4) (fun hc44 => ?_)
  refine g_iinc C X5 d6_47 50 rfl (w := 3) rfl (ls' := #[rv o1, iv 0, iv 3]) rfl ?_
  refine g_goto C X5 d6_50 29 ?_
  refine g_iloadN C X5 d6_29 30 rfl ?_
  refine g_iloadN C X5 d6_30 31 rfl ?_
  refine g_icmp_le C X5 d6_31 53 34 (fun hc31 => absurd hc31 (by decide)) (fun hc31 => ?_)
  refine g_aloadN C X5 d6_34 35 rfl rfl ?_
  refine g_iloadN C X5 d6_35 36 rfl ?_
  refine g_iconst C X5 d6_36 37 (v := 1) rfl ?_
  refine g_isub C X5 d6_37 38 ?_
  rw [show (3 : Int32) - 1 = 2 from by decide]
  refine g_callV0 C X5 (b_10 hw) F0 d6_38 [(.int 2)] [] 0 (rm16_4_2 hw Z0 F0 F1 F2 F3 F4 F5 hcs hwf) N5 pd_9 e5 41 (fun T6 _ X6 N6 e6 => ?_)
  refine g_callS0 C X6 (b_11 hw) d6_41 [(.int (own_ch c3))] [] 0 (rm21 hw Z0) N6 pd_10 e6 44 (fun T7 _ X7 N7 e7 => ?_)
  refine g_if_eq C X7 d6_44 53 47 (fun hc44 => absurd hc44 hs3) (fun hc44 => ?_)
  refine g_iinc C X7 d6_47 50 rfl (w := 2) rfl (ls' := #[rv o1, iv 0, iv 2]) rfl ?_
  refine g_goto C X7 d6_50 29 ?_
  refine g_iloadN C X7 d6_29 30 rfl ?_
  refine g_iloadN C X7 d6_30 31 rfl ?_
  refine g_icmp_le C X7 d6_31 53 34 (fun hc31 => absurd hc31 (by decide)) (fun hc31 => ?_)
  refine g_aloadN C X7 d6_34 35 rfl rfl ?_
  refine g_iloadN C X7 d6_35 36 rfl ?_
  refine g_iconst C X7 d6_36 37 (v := 1) rfl ?_
  refine g_isub C X7 d6_37 38 ?_
  rw [show (2 : Int32) - 1 = 1 from by decide]
  refine g_callV0 C X7 (b_10 hw) F0 d6_38 [(.int 1)] [] 0 (rm16_4_1 hw Z0 F0 F1 F2 F3 F4 F5 hcs hwf) N7 pd_9 e7 41 (fun T8 _ X8 N8 e8 => ?_)
  refine g_callS0 C X8 (b_11 hw) d6_41 [(.int (own_ch c2))] [] 0 (rm21 hw Z0) N8 pd_10 e8 44 (fun T9 _ X9 N9 e9 => ?_)
  refine g_if_eq C X9 d6_44 53 47 (fun hc44 => absurd hc44 hs2) (fun hc44 => ?_)
  refine g_iinc C X9 d6_47 50 rfl (w := 1) rfl (ls' := #[rv o1, iv 0, iv 1]) rfl ?_
  refine g_goto C X9 d6_50 29 ?_
  refine g_iloadN C X9 d6_29 30 rfl ?_
  refine g_iloadN C X9 d6_30 31 rfl ?_
  refine g_icmp_le C X9 d6_31 53 34 (fun hc31 => absurd hc31 (by decide)) (fun hc31 => ?_)
  refine g_aloadN C X9 d6_34 35 rfl rfl ?_
  refine g_iloadN C X9 d6_35 36 rfl ?_
  refine g_iconst C X9 d6_36 37 (v := 1) rfl ?_
  refine g_isub C X9 d6_37 38 ?_
  rw [show (1 : Int32) - 1 = 0 from by decide]
  refine g_callV0 C X9 (b_10 hw) F0 d6_38 [(.int 0)] [] 0 (rm16_4_0 hw Z0 F0 F1 F2 F3 F4 F5 hcs hwf) N9 pd_9 e9 41 (fun T10 _ X10 N10 e10 => ?_)
  refine g_callS0 C X10 (b_11 hw) d6_41 [(.int (own_ch c1))] [] 0 (rm21 hw Z0) N10 pd_10 e10 44 (fun T11 _ X11 N11 e11 => ?_)
  refine g_if_eq C X11 d6_44 53 47 (fun hc44 => ?_) (fun hc44 => absurd hc20 hc44)
  refine g_aloadN C X11 d6_53 54 rfl rfl ?_
  refine g_iloadN C X11 d6_54 55 rfl ?_
  refine g_iloadN C X11 d6_55 56 rfl ?_
  refine g_callV C X11 (w_46 hw) (w_47 hw) (notFace_of_selects (args := #[]) (mvT C.2.1 (w_49 hw))) (w_49 hw) (w_48 hw) (w_50 hw) (w_8 hw) F0 d6_56 [(.int 0), (.int 1)] [] 0 (rm9_4_0_1 hw Z0 F0 F1 F2 F3 F4 F5 hcs hwf) pd_8 e11 59 (fun u12 T12 L12 X12 hQ12 => ?_)
  obtain ⟨o312, o412, kd312, rfl, Nq12, szo312, szo412, Kq12, q12_0, q12_1, q12_2, q12_3⟩ := hQ12
  have N12 := Fr.app N11 Nq12
  have sz_o312 : h0.size ≤ o312 := Nat.le_trans K00.1 szo312
  have sz_o412 : h0.size ≤ o412 := Nat.le_trans K00.1 szo412
  have K12 := K00.trans Kq12 all0
  refine ret1 ?_
  exact g_retA C X12 K rfl rfl rfl d6_59 (by decide) (by decide) rfl ⟨o312, o412, kd312, rfl, N12, sz_o312, sz_o412, K12, q12_0, q12_1, q12_2, q12_3⟩
def Q24_4_0_2 (Z : State) (o1 : Addr) (kd1 : ClassId) (c1 : Int32) (c2 : Int32) (c3 : Int32) (c4 : Int32) (h0 : Heap) (n0 : Nat) (v : Option Value) (h : Heap) (L : List Loc) : Prop := ∃ (o3 : Addr) (kd3 : ClassId), v = some (.ref o3) ∧ Fr n0 L ∧ h0.size ≤ o3 ∧ Keep h0 h [] ∧ Arv Z h o3 kd3 .byte 2 [(.int c1), (.int c2)] (.int 0)
theorem rm24_4_0_2 {o1 : Addr} {kd1 : ClassId} {c1 c2 c3 c4 : Int32} (hw : OwnW a0 Z) (Z0 : n0 ≤ h0.size) (F0 : Arv Z h0 o1 kd1 .byte 4 [(.int c1), (.int c2), (.int c3), (.int c4)] (.int 0)) : OwnMF l Z y24 jdk_65_method_133_code 5 (some (.array .byte)) ws ⟨1, 1, 2, 18⟩ #[(.ref o1), (.int 0), (.int 2)] h0 (Q24_4_0_2 Z o1 kd1 c1 c2 c3 c4 h0 n0) := by
  refine bo (plainFor_of_name pn_23) ?_
  intro p e s m below meth c T0 G C hnm hnamed X0 e0 K
  have N0 := Fr.nil n0
  refine Goes.to (congrArg T0.setTop (ef_24rii m o1 (0 : Int32) (2 : Int32))) ?_
  have K00 := Keep.refl h0 []
  refine g_iloadN C X0 d24_0 1 rfl ?_
  refine g_iloadN C X0 d24_1 2 rfl ?_
  refine g_callSn C X0 (b_12 hw) d24_2 [(.int 0), (.int 2)] [] 0 (rm25_0_2 hw Z0 ) N0 pd_1 e0 5 (fun T1 _ X1 N1 e1 => ?_)
  refine g_iloadN C X1 d24_5 6 rfl ?_
  refine g_iloadN C X1 d24_6 7 rfl ?_
  refine g_isub C X1 d24_7 8 ?_
  rw [show (2 : Int32) - 0 = 2 from by decide]
  refine g_istoreN C X1 d24_8 9 (w := 2) rfl (ls' := #[rv o1, iv 0, iv 2, iv 2, uu]) rfl ?_
  refine g_iloadN C X1 d24_9 10 rfl ?_
  refine g_newA (aty := .byte) (n := (2 : Int32)) C X1 (cap := 2) (w_20 hw) e1 d24_10 12 (by decide) (by decide) (by decide) (by decide) (by decide) (fun T2 h2 b2 ki2 X2 e2 g2 E2 A2 => ?_)
  have f4 := F0.ext E2
  have gn_b2 : n0 ≤ b2 := Nat.le_trans Z0 (Nat.le_of_eq g2.symm)
  have Z2 := Nat.le_trans Z0 E2.1
  have sz_b2 : h0.size ≤ b2 := Nat.le_trans K00.1 (Nat.le_of_eq g2.symm)
  have K2 := K00.ext E2
  have f5 : Arv Z h2 b2 ki2 .byte 2 [(.int 0), (.int 0)] (.int 0) := A2.pad (pad_rep [] (.int 0) 2)
  refine g_astore C X2 d24_12 14 rfl (ls' := #[rv o1, iv 0, iv 2, iv 2, rv b2]) rfl ?_
  refine g_aloadN C X2 d24_14 15 rfl rfl ?_
  refine g_iloadN C X2 d24_15 16 rfl ?_
  refine g_aload C X2 d24_16 18 rfl rfl ?_
  refine g_iconst C X2 d24_18 19 (v := 0) rfl ?_
  refine g_aloadN C X2 d24_19 20 rfl rfl ?_
  refine g_arraylength C X2 e2 f4 d24_20 21 ?_
  refine g_iloadN C X2 d24_21 22 rfl ?_
  refine g_isub C X2 d24_22 23 ?_
  rw [show (4 : Int32) - 0 = 4 from by decide]
  refine g_iloadN C X2 d24_23 24 rfl ?_
  refine g_callS0 C X2 (b_13 hw) d24_24 [(.int 4), (.int 2)] [(.int 0), (.ref b2), (.int 0), (.ref o1)] 4 (rm26 hw Z2) N1 pd_11 e2 27 (fun T6 _ X6 N6 e6 => ?_)
  rw [show fMin (4 : Int32) (2 : Int32) = (2 : Int32) from by decide]
  refine g_acopy C X6 (us := [(.int c1), (.int c2)]) (ur := [(.int c1), (.int c2)]) (w_115 hw) (w_118 hw) (w_116 hw) (w_117 hw) e6 f4 f5 rfl (by decide) (by decide) (by decide) (by decide) (by decide) rfl (by simp; try decide) rfl N6 gn_b2 rfl d24_27 30 (by decide) (W := 0) (Nat.le_of_eq rfl) (by decide) (fun T7 h7 L7 X7 e7 N7 Kq7 V7 => ?_)
  have K7 := K2.trans Kq7 (allS (Or.inr sz_b2) all0)
  refine g_aload C X7 d24_30 32 rfl rfl ?_
  exact g_retA C X7 K rfl rfl rfl d24_32 (by decide) (by decide) e7 ⟨b2, ki2, rfl, N7, sz_b2, K7, V7⟩
def Q23_4_0_2 (Z : State) (o1 : Addr) (kd1 : ClassId) (c1 : Int32) (c2 : Int32) (c3 : Int32) (c4 : Int32) (h0 : Heap) (n0 : Nat) (v : Option Value) (h : Heap) (L : List Loc) : Prop := ∃ (o3 : Addr) (kd3 : ClassId), v = some (.ref o3) ∧ Fr n0 L ∧ h0.size ≤ o3 ∧ Keep h0 h [] ∧ Arv Z h o3 kd3 .byte 2 [(.int c1), (.int c2)] (.int 0)
theorem rm23_4_0_2 {o1 : Addr} {kd1 : ClassId} {c1 c2 c3 c4 : Int32} (hw : OwnW a0 Z) (Z0 : n0 ≤ h0.size) (F0 : Arv Z h0 o1 kd1 .byte 4 [(.int c1), (.int c2), (.int c3), (.int c4)] (.int 0)) : OwnMF l Z y23 jdk_65_method_132_code 3 (some (.array .byte)) ws ⟨2, 1, 2, 34⟩ #[(.ref o1), (.int 0), (.int 2)] h0 (Q23_4_0_2 Z o1 kd1 c1 c2 c3 c4 h0 n0) := by
  refine bo (plainFor_of_name pn_23) ?_
  intro p e s m below meth c T0 G C hnm hnamed X0 e0 K
  have N0 := Fr.nil n0
  refine Goes.to (congrArg T0.setTop (ef_23rii m o1 (0 : Int32) (2 : Int32))) ?_
  have K00 := Keep.refl h0 []
  refine g_iloadN C X0 d23_0 1 rfl ?_
  refine g_if_ne C X0 d23_1 10 4 (fun hc1 => absurd hc1 (by decide)) (fun hc1 => ?_)
  refine g_iloadN C X0 d23_4 5 rfl ?_
  refine g_aloadN C X0 d23_5 6 rfl rfl ?_
  refine g_arraylength C X0 e0 F0 d23_6 7 ?_
  refine g_icmp_eq C X0 d23_7 17 10 (fun hc7 => absurd hc7 (by decide)) (fun hc7 => ?_)
  refine g_aloadN C X0 d23_10 11 rfl rfl ?_
  refine g_iloadN C X0 d23_11 12 rfl ?_
  refine g_iloadN C X0 d23_12 13 rfl ?_
  refine g_callS C X0 (w_106 hw) (w_107 hw) (w_104 hw) (w_108 hw) d23_13 [(.ref o1), (.int 0), (.int 2)] [] 0 (rm24_4_0_2 hw Z0 F0) pd_12 e0 16 (fun u1 T1 L1 X1 hQ1 => ?_)
  obtain ⟨o31, kd31, rfl, Nq1, szo31, Kq1, q1_0⟩ := hQ1
  have N1 := Fr.app N0 Nq1
  have sz_o31 : h0.size ≤ o31 := Nat.le_trans K00.1 szo31
  have K1 := K00.trans Kq1 all0
  refine ret1 ?_
  exact g_retA C X1 K rfl rfl rfl d23_16 (by decide) (by decide) rfl ⟨o31, kd31, rfl, N1, sz_o31, K1, q1_0⟩
def Q22_4_0_2 (Z : State) (o1 : Addr) (kd1 : ClassId) (c1 : Int32) (c2 : Int32) (c3 : Int32) (c4 : Int32) (h0 : Heap) (n0 : Nat) (v : Option Value) (h : Heap) (L : List Loc) : Prop := ∃ (o3 : Addr) (o4 : Addr) (kd3 : ClassId), v = some (.ref o3) ∧ Fr n0 L ∧ h0.size ≤ o3 ∧ h0.size ≤ o4 ∧ Keep h0 h [] ∧ OEs Z h o3 ∧ OFv Z h o3 (.ref o4) ∧ OFc Z h o3 ∧ Arv Z h o4 kd3 .byte 2 [(.int c1), (.int c2)] (.int 0)
theorem rm22_4_0_2 {o1 : Addr} {kd1 : ClassId} {c1 c2 c3 c4 : Int32} (hw : OwnW a0 Z) (Z0 : n0 ≤ h0.size) (F0 : Arv Z h0 o1 kd1 .byte 4 [(.int c1), (.int c2), (.int c3), (.int c4)] (.int 0)) : OwnMF l Z y22 jdk_43_method_47_code 3 (some (.object "java/lang/String")) ws ⟨3, 2, 6, 50⟩ #[(.ref o1), (.int 0), (.int 2)] h0 (Q22_4_0_2 Z o1 kd1 c1 c2 c3 c4 h0 n0) := by
  refine bo (plainFor_of_name pn_18) ?_
  intro p e s m below meth c T0 G C hnm hnamed X0 e0 K
  have N0 := Fr.nil n0
  refine Goes.to (congrArg T0.setTop (ef_22rii m o1 (0 : Int32) (2 : Int32))) ?_
  have K00 := Keep.refl h0 []
  refine g_iloadN C X0 d22_0 1 rfl ?_
  refine g_if_ne C X0 d22_1 7 4 (fun hc1 => ?_) (fun hc1 => absurd hc1 (by decide))
  refine g_new C X0 (w_101 hw) (w_7 hw) (w_8 hw) e0 d22_7 10 (by decide) (by decide) (fun T1 h1 b1 X1 e1 g1 E1 A1 D1 => ?_)
  have f3 := F0.ext E1
  have gn_b1 : n0 ≤ b1 := Nat.le_trans Z0 (Nat.le_of_eq g1.symm)
  have Z1 := Nat.le_trans Z0 E1.1
  have sz_b1 : h0.size ≤ b1 := Nat.le_trans K00.1 (Nat.le_of_eq g1.symm)
  have K1 := K00.ext E1
  have f4 : OFv Z h1 b1 .null := D1 (Or.inr (w_21 hw)) (ty := (.array .byte)) (by decide)
  have f5 : OFc Z h1 b1 := D1 (Or.inr (w_22 hw)) (ty := .byte) (by decide)
  refine g_dup C X1 d22_10 11 rfl ?_
  refine g_aloadN C X1 d22_11 12 rfl rfl ?_
  refine g_iloadN C X1 d22_12 13 rfl ?_
  refine g_iloadN C X1 d22_13 14 rfl ?_
  refine g_iloadN C X1 d22_14 15 rfl ?_
  refine g_iadd C X1 d22_15 16 ?_
  rw [show (0 : Int32) + 2 = 2 from by decide]
  refine g_callS C X1 (w_102 hw) (w_103 hw) (w_104 hw) (w_105 hw) d22_16 [(.ref o1), (.int 0), (.int 2)] [(.ref b1), (.ref b1)] 2 (rm23_4_0_2 hw Z1 f3) pd_12 e1 19 (fun u6 T6 L6 X6 hQ6 => ?_)
  obtain ⟨o36, kd36, rfl, Nq6, szo36, Kq6, q6_0⟩ := hQ6
  have N6 := Fr.app N0 Nq6
  have n7 : b1 ≠ o36 := Nat.ne_of_lt (Nat.lt_of_lt_of_le A1.lt szo36)
  have f10 := A1.keep Kq6
  have f11 := f4.keep Kq6 nin0
  have f12 := f5.keep Kq6 nin0
  have Z6 := Nat.le_trans Z1 Kq6.1
  have sz_o36 : h0.size ≤ o36 := Nat.le_trans K1.1 szo36
  have K6 := K1.trans Kq6 all0
  refine ret1 ?_
  refine g_iconst C X6 d22_19 20 (v := 0) rfl ?_
  refine g_callI C X6 rfl (w_119 hw) (w_120 hw) (w_8 hw) (w_121 hw) d22_20 [(.ref o36), (.int 0)] [(.ref b1)] 1 (rm27 hw Z6 f10 f11 f12 gn_b1) pd_13 rfl 23 (fun u13 T13 L13 X13 hQ13 => ?_)
  obtain ⟨rfl, Nq13, Kq13, q13_0, q13_1, q13_2⟩ := hQ13
  have N13 := Fr.app N6 Nq13
  have f16 := q6_0.keep Kq13 (ninS (Ne.symm n7) nin0)
  have K13 := K6.trans Kq13 (allS (Or.inr sz_b1) all0)
  refine ret0 ?_
  exact g_retA C X13 K rfl rfl rfl d22_23 (by decide) (by decide) rfl ⟨b1, o36, kd36, rfl, N13, sz_b1, sz_o36, K13, q13_0, q13_1, q13_2, f16⟩
def Q9_4_0_2 (Z : State) (o1 : Addr) (o2 : Addr) (kd1 : ClassId) (c1 : Int32) (c2 : Int32) (c3 : Int32) (c4 : Int32) (cs1 : Int32) (wf1 : Value) (h0 : Heap) (n0 : Nat) (v : Option Value) (h : Heap) (L : List Loc) : Prop := ∃ (o3 : Addr) (o4 : Addr) (kd3 : ClassId), v = some (.ref o3) ∧ Fr n0 L ∧ h0.size ≤ o3 ∧ h0.size ≤ o4 ∧ Keep h0 h [] ∧ OEs Z h o3 ∧ OFv Z h o3 (.ref o4) ∧ OFc Z h o3 ∧ Arv Z h o4 kd3 .byte 2 [(.int c1), (.int c2)] (.int 0)
theorem rm9_4_0_2 {o1 o2 : Addr} {kd1 : ClassId} {c1 c2 c3 c4 cs1 : Int32} {wf1 : Value} (hw : OwnW a0 Z) (Z0 : n0 ≤ h0.size) (F0 : OEs Z h0 o1) (F1 : OFv Z h0 o1 (.ref o2)) (F2 : OFc Z h0 o1) (F3 : Arv Z h0 o2 kd1 .byte 4 [(.int c1), (.int c2), (.int c3), (.int c4)] (.int 0)) (F4 : OSc Z h0 cs1) (F5 : OSf Z h0 wf1) (hcs : ¬ cs1 = (0 : Int32)) (hwf : wf1.isRef = true) : OwnMF l Z y9 jdk_42_method_92_code 5 (some (.object "java/lang/String")) ws ⟨4, 2, 6, 64⟩ #[(.ref o1), (.int 0), (.int 2)] h0 (Q9_4_0_2 Z o1 o2 kd1 c1 c2 c3 c4 cs1 wf1 h0 n0) := by
  refine bo (plainFor_of_name pn_2) ?_
  intro p e s m below meth c T0 G C hnm hnamed X0 e0 K
  have N0 := Fr.nil n0
  refine Goes.to (congrArg T0.setTop (ef_9rii m o1 (0 : Int32) (2 : Int32))) ?_
  have K00 := Keep.refl h0 []
  refine g_aloadN C X0 d9_0 1 rfl rfl ?_
  refine g_callV0 C X0 (b_6 hw) F0 d9_1 [] [] 0 (rm7_4 hw Z0 F0 F1 F2 F3 F4 hcs) N0 pd_6 e0 4 (fun T1 _ X1 N1 e1 => ?_)
  refine g_istoreN C X1 d9_4 5 (w := 4) rfl (ls' := #[rv o1, iv 0, iv 2, iv 4, uu]) rfl ?_
  refine g_iloadN C X1 d9_5 6 rfl ?_
  refine g_iloadN C X1 d9_6 7 rfl ?_
  refine g_iloadN C X1 d9_7 8 rfl ?_
  refine g_callSn C X1 (b_7 hw) d9_8 [(.int 0), (.int 2), (.int 4)] [] 0 (rm10 hw Z0 F5 hwf (by decide) (by decide) (by decide)) N1 pd_7 e1 11 (fun T2 _ X2 N2 e2 => ?_)
  refine g_iloadN C X2 d9_11 12 rfl ?_
  refine g_if_ne C X2 d9_12 22 15 (fun hc12 => absurd hc12 (by decide)) (fun hc12 => ?_)
  refine g_iloadN C X2 d9_15 16 rfl ?_
  refine g_iloadN C X2 d9_16 17 rfl ?_
  refine g_icmp_ne C X2 d9_17 22 20 (fun hc17 => ?_) (fun hc17 => absurd hc17 (by decide))
  refine g_iloadN C X2 d9_22 23 rfl ?_
  refine g_iloadN C X2 d9_23 24 rfl ?_
  refine g_isub C X2 d9_24 25 ?_
  rw [show (2 : Int32) - 0 = 2 from by decide]
  refine g_istore C X2 d9_25 27 (w := 2) rfl (ls' := #[rv o1, iv 0, iv 2, iv 4, iv 2]) rfl ?_
  refine g_aloadN C X2 d9_27 28 rfl rfl ?_
  refine g_callV0 C X2 (b_2 hw) F0 d9_28 [] [] 0 (rm17 hw Z0 F2 F4 hcs) N2 pd_2 e2 31 (fun T3 _ X3 N3 e3 => ?_)
  refine g_if_eq C X3 d9_31 47 34 (fun hc31 => absurd hc31 (by decide)) (fun hc31 => ?_)
  refine g_aloadN C X3 d9_34 35 rfl rfl ?_
  refine g_getF C X3 (w_25 hw) Via.refl e3 F1 d9_35 38 (fun T4 X4 e4 => ?_)
  refine g_iloadN C X4 d9_38 39 rfl ?_
  refine g_iload C X4 d9_39 41 rfl ?_
  refine g_callS C X4 (w_98 hw) (w_99 hw) (w_86 hw) (w_100 hw) d9_41 [(.ref o2), (.int 0), (.int 2)] [] 0 (rm22_4_0_2 hw Z0 F3) pd_14 e4 44 (fun u5 T5 L5 X5 hQ5 => ?_)
  obtain ⟨o35, o45, kd35, rfl, Nq5, szo35, szo45, Kq5, q5_0, q5_1, q5_2, q5_3⟩ := hQ5
  have N5 := Fr.app N3 Nq5
  have sz_o35 : h0.size ≤ o35 := Nat.le_trans K00.1 szo35
  have sz_o45 : h0.size ≤ o45 := Nat.le_trans K00.1 szo45
  have K5 := K00.trans Kq5 all0
  refine ret1 ?_
  refine g_goto C X5 d9_44 57 ?_
  exact g_retA C X5 K rfl rfl rfl d9_57 (by decide) (by decide) rfl ⟨o35, o45, kd35, rfl, N5, sz_o35, sz_o45, K5, q5_0, q5_1, q5_2, q5_3⟩
def Q6_4_0_2 (Z : State) (o1 : Addr) (o2 : Addr) (kd1 : ClassId) (c1 : Int32) (c2 : Int32) (c3 : Int32) (c4 : Int32) (cs1 : Int32) (wf1 : Value) (h0 : Heap) (n0 : Nat) (v : Option Value) (h : Heap) (L : List Loc) : Prop := ∃ (o3 : Addr) (o4 : Addr) (kd3 : ClassId), v = some (.ref o3) ∧ Fr n0 L ∧ h0.size ≤ o3 ∧ h0.size ≤ o4 ∧ Keep h0 h [] ∧ OEs Z h o3 ∧ OFv Z h o3 (.ref o4) ∧ OFc Z h o3 ∧ Arv Z h o4 kd3 .byte 2 [(.int c1), (.int c2)] (.int 0)
theorem rm6_4_0_2 {o1 o2 : Addr} {kd1 : ClassId} {c1 c2 c3 c4 cs1 : Int32} {wf1 : Value} (hw : OwnW a0 Z) (Z0 : n0 ≤ h0.size) (F0 : OEs Z h0 o1) (F1 : OFv Z h0 o1 (.ref o2)) (F2 : OFc Z h0 o1) (F3 : Arv Z h0 o2 kd1 .byte 4 [(.int c1), (.int c2), (.int c3), (.int c4)] (.int 0)) (F4 : OSc Z h0 cs1) (F5 : OSf Z h0 wf1) (hcs : ¬ cs1 = (0 : Int32)) (hwf : wf1.isRef = true) (hs1 : fIs (own_ch c1) = (0 : Int32)) (hs2 : fIs (own_ch c2) = (0 : Int32)) (hs3 : ¬ fIs (own_ch c3) = (0 : Int32)) (hs4 : ¬ fIs (own_ch c4) = (0 : Int32)) : OwnMF l Z y6 prog_35_method_2_code 3 (some (.object "java/lang/String")) ws ⟨5, 2, 6, 80⟩ #[(.ref o1)] h0 (Q6_4_0_2 Z o1 o2 kd1 c1 c2 c3 c4 cs1 wf1 h0 n0) := by
  refine bo (plainFor_of_name pn_6) ?_
  intro p e s m below meth c T0 G C hnm hnamed X0 e0 K
  have N0 := Fr.nil n0
  refine Goes.to (congrArg T0.setTop (ef_6r m o1)) ?_
  have K00 := Keep.refl h0 []
  refine g_iconst C X0 d6_0 1 (v := 0) rfl ?_
  refine g_istoreN C X0 d6_1 2 (w := 0) rfl (ls' := #[rv o1, iv 0, uu]) rfl ?_
  refine g_aloadN C X0 d6_2 3 rfl rfl ?_
  refine g_callV0 C X0 (b_8 hw) F0 d6_3 [] [] 0 (rm7_4 hw Z0 F0 F1 F2 F3 F4 hcs) N0 pd_6 e0 6 (fun T1 _ X1 N1 e1 => ?_)
  refine g_istoreN C X1 d6_6 7 (w := 4) rfl (ls' := #[rv o1, iv 0, iv 4]) rfl ?_
  refine g_iloadN C X1 d6_7 8 rfl ?_
  refine g_iloadN C X1 d6_8 9 rfl ?_
  refine g_icmp_ge C X1 d6_9 29 12 (fun hc9 => absurd hc9 (by decide)) (fun hc9 => ?_)
  refine g_aloadN C X1 d6_12 13 rfl rfl ?_
  refine g_iloadN C X1 d6_13 14 rfl ?_
  refine g_callV0 C X1 (b_10 hw) F0 d6_14 [(.int 0)] [] 0 (rm16_4_0 hw Z0 F0 F1 F2 F3 F4 F5 hcs hwf) N1 pd_9 e1 17 (fun T2 _ X2 N2 e2 => ?_)
  refine g_callS0 C X2 (b_11 hw) d6_17 [(.int (own_ch c1))] [] 0 (rm21 hw Z0) N2 pd_10 e2 20 (fun T3 _ X3 N3 e3 => ?_)
  refine g_if_eq C X3 d6_20 29 23 (fun hc20 => ?_) (fun hc20 => absurd hs1 hc20)
  refine g_iloadN C X3 d6_29 30 rfl ?_
  refine g_iloadN C X3 d6_30 31 rfl ?_
  refine g_icmp_le C X3 d6_31 53 34 (fun hc31 => absurd hc31 (by decide)) (fun hc31 => ?_)
  refine g_aloadN C X3 d6_34 35 rfl rfl ?_
  refine g_iloadN C X3 d6_35 36 rfl ?_
  refine g_iconst C X3 d6_36 37 (v := 1) rfl ?_
  refine g_isub C X3 d6_37 38 ?_
  rw [show (4 : Int32) - 1 = 3 from by decide]
  refine g_callV0 C X3 (b_10 hw) F0 d6_38 [(.int 3)] [] 0 (rm16_4_3 hw Z0 F0 F1 F2 F3 F4 F5 hcs hwf) N3 pd_9 e3 41 (fun T4 _ X4 N4 e4 => ?_)
  refine g_callS0 C X4 (b_11 hw) d6_41 [(.int (own_ch c4))] [] 0 (rm21 hw Z0) N4 pd_10 e4 44 (fun T5 _ X5 N5 e5 => ?_)
  refine g_if_eq C X5 d6_44 53 47 (fun hc44 => absurd hc44 hs4) (fun hc44 => ?_)
  refine g_iinc C X5 d6_47 50 rfl (w := 3) rfl (ls' := #[rv o1, iv 0, iv 3]) rfl ?_
  refine g_goto C X5 d6_50 29 ?_
  refine g_iloadN C X5 d6_29 30 rfl ?_
  refine g_iloadN C X5 d6_30 31 rfl ?_
  refine g_icmp_le C X5 d6_31 53 34 (fun hc31 => absurd hc31 (by decide)) (fun hc31 => ?_)
  refine g_aloadN C X5 d6_34 35 rfl rfl ?_
  refine g_iloadN C X5 d6_35 36 rfl ?_
  refine g_iconst C X5 d6_36 37 (v := 1) rfl ?_
  refine g_isub C X5 d6_37 38 ?_
  rw [show (3 : Int32) - 1 = 2 from by decide]
  refine g_callV0 C X5 (b_10 hw) F0 d6_38 [(.int 2)] [] 0 (rm16_4_2 hw Z0 F0 F1 F2 F3 F4 F5 hcs hwf) N5 pd_9 e5 41 (fun T6 _ X6 N6 e6 => ?_)
  refine g_callS0 C X6 (b_11 hw) d6_41 [(.int (own_ch c3))] [] 0 (rm21 hw Z0) N6 pd_10 e6 44 (fun T7 _ X7 N7 e7 => ?_)
  refine g_if_eq C X7 d6_44 53 47 (fun hc44 => absurd hc44 hs3) (fun hc44 => ?_)
  refine g_iinc C X7 d6_47 50 rfl (w := 2) rfl (ls' := #[rv o1, iv 0, iv 2]) rfl ?_
  refine g_goto C X7 d6_50 29 ?_
  refine g_iloadN C X7 d6_29 30 rfl ?_
  refine g_iloadN C X7 d6_30 31 rfl ?_
  refine g_icmp_le C X7 d6_31 53 34 (fun hc31 => absurd hc31 (by decide)) (fun hc31 => ?_)
  refine g_aloadN C X7 d6_34 35 rfl rfl ?_
  refine g_iloadN C X7 d6_35 36 rfl ?_
  refine g_iconst C X7 d6_36 37 (v := 1) rfl ?_
  refine g_isub C X7 d6_37 38 ?_
  rw [show (2 : Int32) - 1 = 1 from by decide]
  refine g_callV0 C X7 (b_10 hw) F0 d6_38 [(.int 1)] [] 0 (rm16_4_1 hw Z0 F0 F1 F2 F3 F4 F5 hcs hwf) N7 pd_9 e7 41 (fun T8 _ X8 N8 e8 => ?_)
  refine g_callS0 C X8 (b_11 hw) d6_41 [(.int (own_ch c2))] [] 0 (rm21 hw Z0) N8 pd_10 e8 44 (fun T9 _ X9 N9 e9 => ?_)
  refine g_if_eq C X9 d6_44 53 47 (fun hc44 => ?_) (fun hc44 => absurd hs2 hc44)
  refine g_aloadN C X9 d6_53 54 rfl rfl ?_
  refine g_iloadN C X9 d6_54 55 rfl ?_
  refine g_iloadN C X9 d6_55 56 rfl ?_
  refine g_callV C X9 (w_46 hw) (w_47 hw) (notFace_of_selects (args := #[]) (mvT C.2.1 (w_49 hw))) (w_49 hw) (w_48 hw) (w_50 hw) (w_8 hw) F0 d6_56 [(.int 0), (.int 2)] [] 0 (rm9_4_0_2 hw Z0 F0 F1 F2 F3 F4 F5 hcs hwf) pd_8 e9 59 (fun u10 T10 L10 X10 hQ10 => ?_)
  obtain ⟨o310, o410, kd310, rfl, Nq10, szo310, szo410, Kq10, q10_0, q10_1, q10_2, q10_3⟩ := hQ10
  have N10 := Fr.app N9 Nq10
  have sz_o310 : h0.size ≤ o310 := Nat.le_trans K00.1 szo310
  have sz_o410 : h0.size ≤ o410 := Nat.le_trans K00.1 szo410
  have K10 := K00.trans Kq10 all0
  refine ret1 ?_
  exact g_retA C X10 K rfl rfl rfl d6_59 (by decide) (by decide) rfl ⟨o310, o410, kd310, rfl, N10, sz_o310, sz_o410, K10, q10_0, q10_1, q10_2, q10_3⟩
theorem rm25_0_3  (hw : OwnW a0 Z) (Z0 : n0 ≤ h0.size) : OwnMF l Z y25 jdk_65_method_131_code 2 none ws ⟨0, 0, 0, 0⟩ #[(.int 0), (.int 3)] h0 (OwnQ none h0 n0) := by
  refine bo (plainFor_of_name pn_23) ?_
  intro p e s m below meth c T0 G C hnm hnamed X0 e0 K
  have N0 := Fr.nil n0
  refine Goes.to (congrArg T0.setTop (ef_25ii m (0 : Int32) (3 : Int32))) ?_
  refine g_iloadN C X0 d25_0 1 rfl ?_
  refine g_iloadN C X0 d25_1 2 rfl ?_
  refine g_icmp_ge C X0 d25_2 37 5 (fun hc2 => ?_) (fun hc2 => absurd hc2 (by decide))
  exact g_retV C X0 K d25_37 (by decide) (by decide) e0 ⟨rfl, N0, rfl⟩
def Q24_4_0_3 (Z : State) (o1 : Addr) (kd1 : ClassId) (c1 : Int32) (c2 : Int32) (c3 : Int32) (c4 : Int32) (h0 : Heap) (n0 : Nat) (v : Option Value) (h : Heap) (L : List Loc) : Prop := ∃ (o3 : Addr) (kd3 : ClassId), v = some (.ref o3) ∧ Fr n0 L ∧ h0.size ≤ o3 ∧ Keep h0 h [] ∧ Arv Z h o3 kd3 .byte 3 [(.int c1), (.int c2), (.int c3)] (.int 0)
theorem rm24_4_0_3 {o1 : Addr} {kd1 : ClassId} {c1 c2 c3 c4 : Int32} (hw : OwnW a0 Z) (Z0 : n0 ≤ h0.size) (F0 : Arv Z h0 o1 kd1 .byte 4 [(.int c1), (.int c2), (.int c3), (.int c4)] (.int 0)) : OwnMF l Z y24 jdk_65_method_133_code 5 (some (.array .byte)) ws ⟨1, 1, 3, 18⟩ #[(.ref o1), (.int 0), (.int 3)] h0 (Q24_4_0_3 Z o1 kd1 c1 c2 c3 c4 h0 n0) := by
  refine bo (plainFor_of_name pn_23) ?_
  intro p e s m below meth c T0 G C hnm hnamed X0 e0 K
  have N0 := Fr.nil n0
  refine Goes.to (congrArg T0.setTop (ef_24rii m o1 (0 : Int32) (3 : Int32))) ?_
  have K00 := Keep.refl h0 []
  refine g_iloadN C X0 d24_0 1 rfl ?_
  refine g_iloadN C X0 d24_1 2 rfl ?_
  refine g_callSn C X0 (b_12 hw) d24_2 [(.int 0), (.int 3)] [] 0 (rm25_0_3 hw Z0 ) N0 pd_1 e0 5 (fun T1 _ X1 N1 e1 => ?_)
  refine g_iloadN C X1 d24_5 6 rfl ?_
  refine g_iloadN C X1 d24_6 7 rfl ?_
  refine g_isub C X1 d24_7 8 ?_
  rw [show (3 : Int32) - 0 = 3 from by decide]
  refine g_istoreN C X1 d24_8 9 (w := 3) rfl (ls' := #[rv o1, iv 0, iv 3, iv 3, uu]) rfl ?_
  refine g_iloadN C X1 d24_9 10 rfl ?_
  refine g_newA (aty := .byte) (n := (3 : Int32)) C X1 (cap := 3) (w_20 hw) e1 d24_10 12 (by decide) (by decide) (by decide) (by decide) (by decide) (fun T2 h2 b2 ki2 X2 e2 g2 E2 A2 => ?_)
  have f4 := F0.ext E2
  have gn_b2 : n0 ≤ b2 := Nat.le_trans Z0 (Nat.le_of_eq g2.symm)
  have Z2 := Nat.le_trans Z0 E2.1
  have sz_b2 : h0.size ≤ b2 := Nat.le_trans K00.1 (Nat.le_of_eq g2.symm)
  have K2 := K00.ext E2
  have f5 : Arv Z h2 b2 ki2 .byte 3 [(.int 0), (.int 0), (.int 0)] (.int 0) := A2.pad (pad_rep [] (.int 0) 3)
  refine g_astore C X2 d24_12 14 rfl (ls' := #[rv o1, iv 0, iv 3, iv 3, rv b2]) rfl ?_
  refine g_aloadN C X2 d24_14 15 rfl rfl ?_
  refine g_iloadN C X2 d24_15 16 rfl ?_
  refine g_aload C X2 d24_16 18 rfl rfl ?_
  refine g_iconst C X2 d24_18 19 (v := 0) rfl ?_
  refine g_aloadN C X2 d24_19 20 rfl rfl ?_
  refine g_arraylength C X2 e2 f4 d24_20 21 ?_
  refine g_iloadN C X2 d24_21 22 rfl ?_
  refine g_isub C X2 d24_22 23 ?_
  rw [show (4 : Int32) - 0 = 4 from by decide]
  refine g_iloadN C X2 d24_23 24 rfl ?_
  refine g_callS0 C X2 (b_13 hw) d24_24 [(.int 4), (.int 3)] [(.int 0), (.ref b2), (.int 0), (.ref o1)] 4 (rm26 hw Z2) N1 pd_11 e2 27 (fun T6 _ X6 N6 e6 => ?_)
  rw [show fMin (4 : Int32) (3 : Int32) = (3 : Int32) from by decide]
  refine g_acopy C X6 (us := [(.int c1), (.int c2), (.int c3)]) (ur := [(.int c1), (.int c2), (.int c3)]) (w_115 hw) (w_118 hw) (w_116 hw) (w_117 hw) e6 f4 f5 rfl (by decide) (by decide) (by decide) (by decide) (by decide) rfl (by simp; try decide) rfl N6 gn_b2 rfl d24_27 30 (by decide) (W := 0) (Nat.le_of_eq rfl) (by decide) (fun T7 h7 L7 X7 e7 N7 Kq7 V7 => ?_)
  have K7 := K2.trans Kq7 (allS (Or.inr sz_b2) all0)
  refine g_aload C X7 d24_30 32 rfl rfl ?_
  exact g_retA C X7 K rfl rfl rfl d24_32 (by decide) (by decide) e7 ⟨b2, ki2, rfl, N7, sz_b2, K7, V7⟩
def Q23_4_0_3 (Z : State) (o1 : Addr) (kd1 : ClassId) (c1 : Int32) (c2 : Int32) (c3 : Int32) (c4 : Int32) (h0 : Heap) (n0 : Nat) (v : Option Value) (h : Heap) (L : List Loc) : Prop := ∃ (o3 : Addr) (kd3 : ClassId), v = some (.ref o3) ∧ Fr n0 L ∧ h0.size ≤ o3 ∧ Keep h0 h [] ∧ Arv Z h o3 kd3 .byte 3 [(.int c1), (.int c2), (.int c3)] (.int 0)
theorem rm23_4_0_3 {o1 : Addr} {kd1 : ClassId} {c1 c2 c3 c4 : Int32} (hw : OwnW a0 Z) (Z0 : n0 ≤ h0.size) (F0 : Arv Z h0 o1 kd1 .byte 4 [(.int c1), (.int c2), (.int c3), (.int c4)] (.int 0)) : OwnMF l Z y23 jdk_65_method_132_code 3 (some (.array .byte)) ws ⟨2, 1, 3, 34⟩ #[(.ref o1), (.int 0), (.int 3)] h0 (Q23_4_0_3 Z o1 kd1 c1 c2 c3 c4 h0 n0) := by
  refine bo (plainFor_of_name pn_23) ?_
  intro p e s m below meth c T0 G C hnm hnamed X0 e0 K
  have N0 := Fr.nil n0
  refine Goes.to (congrArg T0.setTop (ef_23rii m o1 (0 : Int32) (3 : Int32))) ?_
  have K00 := Keep.refl h0 []
  refine g_iloadN C X0 d23_0 1 rfl ?_
  refine g_if_ne C X0 d23_1 10 4 (fun hc1 => absurd hc1 (by decide)) (fun hc1 => ?_)
  refine g_iloadN C X0 d23_4 5 rfl ?_
  refine g_aloadN C X0 d23_5 6 rfl rfl ?_
  refine g_arraylength C X0 e0 F0 d23_6 7 ?_
  refine g_icmp_eq C X0 d23_7 17 10 (fun hc7 => absurd hc7 (by decide)) (fun hc7 => ?_)
  refine g_aloadN C X0 d23_10 11 rfl rfl ?_
  refine g_iloadN C X0 d23_11 12 rfl ?_
  refine g_iloadN C X0 d23_12 13 rfl ?_
  refine g_callS C X0 (w_106 hw) (w_107 hw) (w_104 hw) (w_108 hw) d23_13 [(.ref o1), (.int 0), (.int 3)] [] 0 (rm24_4_0_3 hw Z0 F0) pd_12 e0 16 (fun u1 T1 L1 X1 hQ1 => ?_)
  obtain ⟨o31, kd31, rfl, Nq1, szo31, Kq1, q1_0⟩ := hQ1
  have N1 := Fr.app N0 Nq1
  have sz_o31 : h0.size ≤ o31 := Nat.le_trans K00.1 szo31
  have K1 := K00.trans Kq1 all0
  refine ret1 ?_
  exact g_retA C X1 K rfl rfl rfl d23_16 (by decide) (by decide) rfl ⟨o31, kd31, rfl, N1, sz_o31, K1, q1_0⟩
def Q22_4_0_3 (Z : State) (o1 : Addr) (kd1 : ClassId) (c1 : Int32) (c2 : Int32) (c3 : Int32) (c4 : Int32) (h0 : Heap) (n0 : Nat) (v : Option Value) (h : Heap) (L : List Loc) : Prop := ∃ (o3 : Addr) (o4 : Addr) (kd3 : ClassId), v = some (.ref o3) ∧ Fr n0 L ∧ h0.size ≤ o3 ∧ h0.size ≤ o4 ∧ Keep h0 h [] ∧ OEs Z h o3 ∧ OFv Z h o3 (.ref o4) ∧ OFc Z h o3 ∧ Arv Z h o4 kd3 .byte 3 [(.int c1), (.int c2), (.int c3)] (.int 0)
theorem rm22_4_0_3 {o1 : Addr} {kd1 : ClassId} {c1 c2 c3 c4 : Int32} (hw : OwnW a0 Z) (Z0 : n0 ≤ h0.size) (F0 : Arv Z h0 o1 kd1 .byte 4 [(.int c1), (.int c2), (.int c3), (.int c4)] (.int 0)) : OwnMF l Z y22 jdk_43_method_47_code 3 (some (.object "java/lang/String")) ws ⟨3, 2, 7, 50⟩ #[(.ref o1), (.int 0), (.int 3)] h0 (Q22_4_0_3 Z o1 kd1 c1 c2 c3 c4 h0 n0) := by
  refine bo (plainFor_of_name pn_18) ?_
  intro p e s m below meth c T0 G C hnm hnamed X0 e0 K
  have N0 := Fr.nil n0
  refine Goes.to (congrArg T0.setTop (ef_22rii m o1 (0 : Int32) (3 : Int32))) ?_
  have K00 := Keep.refl h0 []
  refine g_iloadN C X0 d22_0 1 rfl ?_
  refine g_if_ne C X0 d22_1 7 4 (fun hc1 => ?_) (fun hc1 => absurd hc1 (by decide))
  refine g_new C X0 (w_101 hw) (w_7 hw) (w_8 hw) e0 d22_7 10 (by decide) (by decide) (fun T1 h1 b1 X1 e1 g1 E1 A1 D1 => ?_)
  have f3 := F0.ext E1
  have gn_b1 : n0 ≤ b1 := Nat.le_trans Z0 (Nat.le_of_eq g1.symm)
  have Z1 := Nat.le_trans Z0 E1.1
  have sz_b1 : h0.size ≤ b1 := Nat.le_trans K00.1 (Nat.le_of_eq g1.symm)
  have K1 := K00.ext E1
  have f4 : OFv Z h1 b1 .null := D1 (Or.inr (w_21 hw)) (ty := (.array .byte)) (by decide)
  have f5 : OFc Z h1 b1 := D1 (Or.inr (w_22 hw)) (ty := .byte) (by decide)
  refine g_dup C X1 d22_10 11 rfl ?_
  refine g_aloadN C X1 d22_11 12 rfl rfl ?_
  refine g_iloadN C X1 d22_12 13 rfl ?_
  refine g_iloadN C X1 d22_13 14 rfl ?_
  refine g_iloadN C X1 d22_14 15 rfl ?_
  refine g_iadd C X1 d22_15 16 ?_
  rw [show (0 : Int32) + 3 = 3 from by decide]
  refine g_callS C X1 (w_102 hw) (w_103 hw) (w_104 hw) (w_105 hw) d22_16 [(.ref o1), (.int 0), (.int 3)] [(.ref b1), (.ref b1)] 2 (rm23_4_0_3 hw Z1 f3) pd_12 e1 19 (fun u6 T6 L6 X6 hQ6 => ?_)
  obtain ⟨o36, kd36, rfl, Nq6, szo36, Kq6, q6_0⟩ := hQ6
  have N6 := Fr.app N0 Nq6
  have n7 : b1 ≠ o36 := Nat.ne_of_lt (Nat.lt_of_lt_of_le A1.lt szo36)
  have f10 := A1.keep Kq6
  have f11 := f4.keep Kq6 nin0
  have f12 := f5.keep Kq6 nin0
  have Z6 := Nat.le_trans Z1 Kq6.1
  have sz_o36 : h0.size ≤ o36 := Nat.le_trans K1.1 szo36
  have K6 := K1.trans Kq6 all0
  refine ret1 ?_
  refine g_iconst C X6 d22_19 20 (v := 0) rfl ?_
  refine g_callI C X6 rfl (w_119 hw) (w_120 hw) (w_8 hw) (w_121 hw) d22_20 [(.ref o36), (.int 0)] [(.ref b1)] 1 (rm27 hw Z6 f10 f11 f12 gn_b1) pd_13 rfl 23 (fun u13 T13 L13 X13 hQ13 => ?_)
  obtain ⟨rfl, Nq13, Kq13, q13_0, q13_1, q13_2⟩ := hQ13
  have N13 := Fr.app N6 Nq13
  have f16 := q6_0.keep Kq13 (ninS (Ne.symm n7) nin0)
  have K13 := K6.trans Kq13 (allS (Or.inr sz_b1) all0)
  refine ret0 ?_
  exact g_retA C X13 K rfl rfl rfl d22_23 (by decide) (by decide) rfl ⟨b1, o36, kd36, rfl, N13, sz_b1, sz_o36, K13, q13_0, q13_1, q13_2, f16⟩
def Q9_4_0_3 (Z : State) (o1 : Addr) (o2 : Addr) (kd1 : ClassId) (c1 : Int32) (c2 : Int32) (c3 : Int32) (c4 : Int32) (cs1 : Int32) (wf1 : Value) (h0 : Heap) (n0 : Nat) (v : Option Value) (h : Heap) (L : List Loc) : Prop := ∃ (o3 : Addr) (o4 : Addr) (kd3 : ClassId), v = some (.ref o3) ∧ Fr n0 L ∧ h0.size ≤ o3 ∧ h0.size ≤ o4 ∧ Keep h0 h [] ∧ OEs Z h o3 ∧ OFv Z h o3 (.ref o4) ∧ OFc Z h o3 ∧ Arv Z h o4 kd3 .byte 3 [(.int c1), (.int c2), (.int c3)] (.int 0)
theorem rm9_4_0_3 {o1 o2 : Addr} {kd1 : ClassId} {c1 c2 c3 c4 cs1 : Int32} {wf1 : Value} (hw : OwnW a0 Z) (Z0 : n0 ≤ h0.size) (F0 : OEs Z h0 o1) (F1 : OFv Z h0 o1 (.ref o2)) (F2 : OFc Z h0 o1) (F3 : Arv Z h0 o2 kd1 .byte 4 [(.int c1), (.int c2), (.int c3), (.int c4)] (.int 0)) (F4 : OSc Z h0 cs1) (F5 : OSf Z h0 wf1) (hcs : ¬ cs1 = (0 : Int32)) (hwf : wf1.isRef = true) : OwnMF l Z y9 jdk_42_method_92_code 5 (some (.object "java/lang/String")) ws ⟨4, 2, 7, 64⟩ #[(.ref o1), (.int 0), (.int 3)] h0 (Q9_4_0_3 Z o1 o2 kd1 c1 c2 c3 c4 cs1 wf1 h0 n0) := by
  refine bo (plainFor_of_name pn_2) ?_
  intro p e s m below meth c T0 G C hnm hnamed X0 e0 K
  have N0 := Fr.nil n0
  refine Goes.to (congrArg T0.setTop (ef_9rii m o1 (0 : Int32) (3 : Int32))) ?_
  have K00 := Keep.refl h0 []
  refine g_aloadN C X0 d9_0 1 rfl rfl ?_
  refine g_callV0 C X0 (b_6 hw) F0 d9_1 [] [] 0 (rm7_4 hw Z0 F0 F1 F2 F3 F4 hcs) N0 pd_6 e0 4 (fun T1 _ X1 N1 e1 => ?_)
  refine g_istoreN C X1 d9_4 5 (w := 4) rfl (ls' := #[rv o1, iv 0, iv 3, iv 4, uu]) rfl ?_
  refine g_iloadN C X1 d9_5 6 rfl ?_
  refine g_iloadN C X1 d9_6 7 rfl ?_
  refine g_iloadN C X1 d9_7 8 rfl ?_
  refine g_callSn C X1 (b_7 hw) d9_8 [(.int 0), (.int 3), (.int 4)] [] 0 (rm10 hw Z0 F5 hwf (by decide) (by decide) (by decide)) N1 pd_7 e1 11 (fun T2 _ X2 N2 e2 => ?_)
  refine g_iloadN C X2 d9_11 12 rfl ?_
  refine g_if_ne C X2 d9_12 22 15 (fun hc12 => absurd hc12 (by decide)) (fun hc12 => ?_)
  refine g_iloadN C X2 d9_15 16 rfl ?_
  refine g_iloadN C X2 d9_16 17 rfl ?_
  refine g_icmp_ne C X2 d9_17 22 20 (fun hc17 => ?_) (fun hc17 => absurd hc17 (by decide))
  refine g_iloadN C X2 d9_22 23 rfl ?_
  refine g_iloadN C X2 d9_23 24 rfl ?_
  refine g_isub C X2 d9_24 25 ?_
  rw [show (3 : Int32) - 0 = 3 from by decide]
  refine g_istore C X2 d9_25 27 (w := 3) rfl (ls' := #[rv o1, iv 0, iv 3, iv 4, iv 3]) rfl ?_
  refine g_aloadN C X2 d9_27 28 rfl rfl ?_
  refine g_callV0 C X2 (b_2 hw) F0 d9_28 [] [] 0 (rm17 hw Z0 F2 F4 hcs) N2 pd_2 e2 31 (fun T3 _ X3 N3 e3 => ?_)
  refine g_if_eq C X3 d9_31 47 34 (fun hc31 => absurd hc31 (by decide)) (fun hc31 => ?_)
  refine g_aloadN C X3 d9_34 35 rfl rfl ?_
  refine g_getF C X3 (w_25 hw) Via.refl e3 F1 d9_35 38 (fun T4 X4 e4 => ?_)
  refine g_iloadN C X4 d9_38 39 rfl ?_
  refine g_iload C X4 d9_39 41 rfl ?_
  refine g_callS C X4 (w_98 hw) (w_99 hw) (w_86 hw) (w_100 hw) d9_41 [(.ref o2), (.int 0), (.int 3)] [] 0 (rm22_4_0_3 hw Z0 F3) pd_14 e4 44 (fun u5 T5 L5 X5 hQ5 => ?_)
  obtain ⟨o35, o45, kd35, rfl, Nq5, szo35, szo45, Kq5, q5_0, q5_1, q5_2, q5_3⟩ := hQ5
  have N5 := Fr.app N3 Nq5
  have sz_o35 : h0.size ≤ o35 := Nat.le_trans K00.1 szo35
  have sz_o45 : h0.size ≤ o45 := Nat.le_trans K00.1 szo45
  have K5 := K00.trans Kq5 all0
  refine ret1 ?_
  refine g_goto C X5 d9_44 57 ?_
  exact g_retA C X5 K rfl rfl rfl d9_57 (by decide) (by decide) rfl ⟨o35, o45, kd35, rfl, N5, sz_o35, sz_o45, K5, q5_0, q5_1, q5_2, q5_3⟩
def Q6_4_0_3 (Z : State) (o1 : Addr) (o2 : Addr) (kd1 : ClassId) (c1 : Int32) (c2 : Int32) (c3 : Int32) (c4 : Int32) (cs1 : Int32) (wf1 : Value) (h0 : Heap) (n0 : Nat) (v : Option Value) (h : Heap) (L : List Loc) : Prop := ∃ (o3 : Addr) (o4 : Addr) (kd3 : ClassId), v = some (.ref o3) ∧ Fr n0 L ∧ h0.size ≤ o3 ∧ h0.size ≤ o4 ∧ Keep h0 h [] ∧ OEs Z h o3 ∧ OFv Z h o3 (.ref o4) ∧ OFc Z h o3 ∧ Arv Z h o4 kd3 .byte 3 [(.int c1), (.int c2), (.int c3)] (.int 0)
theorem rm6_4_0_3 {o1 o2 : Addr} {kd1 : ClassId} {c1 c2 c3 c4 cs1 : Int32} {wf1 : Value} (hw : OwnW a0 Z) (Z0 : n0 ≤ h0.size) (F0 : OEs Z h0 o1) (F1 : OFv Z h0 o1 (.ref o2)) (F2 : OFc Z h0 o1) (F3 : Arv Z h0 o2 kd1 .byte 4 [(.int c1), (.int c2), (.int c3), (.int c4)] (.int 0)) (F4 : OSc Z h0 cs1) (F5 : OSf Z h0 wf1) (hcs : ¬ cs1 = (0 : Int32)) (hwf : wf1.isRef = true) (hs1 : fIs (own_ch c1) = (0 : Int32)) (hs3 : fIs (own_ch c3) = (0 : Int32)) (hs4 : ¬ fIs (own_ch c4) = (0 : Int32)) : OwnMF l Z y6 prog_35_method_2_code 3 (some (.object "java/lang/String")) ws ⟨5, 2, 7, 80⟩ #[(.ref o1)] h0 (Q6_4_0_3 Z o1 o2 kd1 c1 c2 c3 c4 cs1 wf1 h0 n0) := by
  refine bo (plainFor_of_name pn_6) ?_
  intro p e s m below meth c T0 G C hnm hnamed X0 e0 K
  have N0 := Fr.nil n0
  refine Goes.to (congrArg T0.setTop (ef_6r m o1)) ?_
  have K00 := Keep.refl h0 []
  refine g_iconst C X0 d6_0 1 (v := 0) rfl ?_
  refine g_istoreN C X0 d6_1 2 (w := 0) rfl (ls' := #[rv o1, iv 0, uu]) rfl ?_
  refine g_aloadN C X0 d6_2 3 rfl rfl ?_
  refine g_callV0 C X0 (b_8 hw) F0 d6_3 [] [] 0 (rm7_4 hw Z0 F0 F1 F2 F3 F4 hcs) N0 pd_6 e0 6 (fun T1 _ X1 N1 e1 => ?_)
  refine g_istoreN C X1 d6_6 7 (w := 4) rfl (ls' := #[rv o1, iv 0, iv 4]) rfl ?_
  refine g_iloadN C X1 d6_7 8 rfl ?_
  refine g_iloadN C X1 d6_8 9 rfl ?_
  refine g_icmp_ge C X1 d6_9 29 12 (fun hc9 => absurd hc9 (by decide)) (fun hc9 => ?_)
  refine g_aloadN C X1 d6_12 13 rfl rfl ?_
  refine g_iloadN C X1 d6_13 14 rfl ?_
  refine g_callV0 C X1 (b_10 hw) F0 d6_14 [(.int 0)] [] 0 (rm16_4_0 hw Z0 F0 F1 F2 F3 F4 F5 hcs hwf) N1 pd_9 e1 17 (fun T2 _ X2 N2 e2 => ?_)
  refine g_callS0 C X2 (b_11 hw) d6_17 [(.int (own_ch c1))] [] 0 (rm21 hw Z0) N2 pd_10 e2 20 (fun T3 _ X3 N3 e3 => ?_)
  refine g_if_eq C X3 d6_20 29 23 (fun hc20 => ?_) (fun hc20 => absurd hs1 hc20)
  refine g_iloadN C X3 d6_29 30 rfl ?_
  refine g_iloadN C X3 d6_30 31 rfl ?_
  refine g_icmp_le C X3 d6_31 53 34 (fun hc31 => absurd hc31 (by decide)) (fun hc31 => ?_)
  refine g_aloadN C X3 d6_34 35 rfl rfl ?_
  refine g_iloadN C X3 d6_35 36 rfl ?_
  refine g_iconst C X3 d6_36 37 (v := 1) rfl ?_
  refine g_isub C X3 d6_37 38 ?_
  rw [show (4 : Int32) - 1 = 3 from by decide]
  refine g_callV0 C X3 (b_10 hw) F0 d6_38 [(.int 3)] [] 0 (rm16_4_3 hw Z0 F0 F1 F2 F3 F4 F5 hcs hwf) N3 pd_9 e3 41 (fun T4 _ X4 N4 e4 => ?_)
  refine g_callS0 C X4 (b_11 hw) d6_41 [(.int (own_ch c4))] [] 0 (rm21 hw Z0) N4 pd_10 e4 44 (fun T5 _ X5 N5 e5 => ?_)
  refine g_if_eq C X5 d6_44 53 47 (fun hc44 => absurd hc44 hs4) (fun hc44 => ?_)
  refine g_iinc C X5 d6_47 50 rfl (w := 3) rfl (ls' := #[rv o1, iv 0, iv 3]) rfl ?_
  refine g_goto C X5 d6_50 29 ?_
  refine g_iloadN C X5 d6_29 30 rfl ?_
  refine g_iloadN C X5 d6_30 31 rfl ?_
  refine g_icmp_le C X5 d6_31 53 34 (fun hc31 => absurd hc31 (by decide)) (fun hc31 => ?_)
  refine g_aloadN C X5 d6_34 35 rfl rfl ?_
  refine g_iloadN C X5 d6_35 36 rfl ?_
  refine g_iconst C X5 d6_36 37 (v := 1) rfl ?_
  refine g_isub C X5 d6_37 38 ?_
  rw [show (3 : Int32) - 1 = 2 from by decide]
  refine g_callV0 C X5 (b_10 hw) F0 d6_38 [(.int 2)] [] 0 (rm16_4_2 hw Z0 F0 F1 F2 F3 F4 F5 hcs hwf) N5 pd_9 e5 41 (fun T6 _ X6 N6 e6 => ?_)
  refine g_callS0 C X6 (b_11 hw) d6_41 [(.int (own_ch c3))] [] 0 (rm21 hw Z0) N6 pd_10 e6 44 (fun T7 _ X7 N7 e7 => ?_)
  refine g_if_eq C X7 d6_44 53 47 (fun hc44 => ?_) (fun hc44 => absurd hs3 hc44)
  refine g_aloadN C X7 d6_53 54 rfl rfl ?_
  refine g_iloadN C X7 d6_54 55 rfl ?_
  refine g_iloadN C X7 d6_55 56 rfl ?_
  refine g_callV C X7 (w_46 hw) (w_47 hw) (notFace_of_selects (args := #[]) (mvT C.2.1 (w_49 hw))) (w_49 hw) (w_48 hw) (w_50 hw) (w_8 hw) F0 d6_56 [(.int 0), (.int 3)] [] 0 (rm9_4_0_3 hw Z0 F0 F1 F2 F3 F4 F5 hcs hwf) pd_8 e7 59 (fun u8 T8 L8 X8 hQ8 => ?_)
  obtain ⟨o38, o48, kd38, rfl, Nq8, szo38, szo48, Kq8, q8_0, q8_1, q8_2, q8_3⟩ := hQ8
  have N8 := Fr.app N7 Nq8
  have sz_o38 : h0.size ≤ o38 := Nat.le_trans K00.1 szo38
  have sz_o48 : h0.size ≤ o48 := Nat.le_trans K00.1 szo48
  have K8 := K00.trans Kq8 all0
  refine ret1 ?_
  exact g_retA C X8 K rfl rfl rfl d6_59 (by decide) (by decide) rfl ⟨o38, o48, kd38, rfl, N8, sz_o38, sz_o48, K8, q8_0, q8_1, q8_2, q8_3⟩
theorem rm9_4_0_4 {o1 o2 : Addr} {kd1 : ClassId} {c1 c2 c3 c4 cs1 : Int32} {wf1 : Value} (hw : OwnW a0 Z) (Z0 : n0 ≤ h0.size) (F0 : OEs Z h0 o1) (F1 : OFv Z h0 o1 (.ref o2)) (F2 : OFc Z h0 o1) (F3 : Arv Z h0 o2 kd1 .byte 4 [(.int c1), (.int c2), (.int c3), (.int c4)] (.int 0)) (F4 : OSc Z h0 cs1) (F5 : OSf Z h0 wf1) (hcs : ¬ cs1 = (0 : Int32)) (hwf : wf1.isRef = true) : OwnMF l Z y9 jdk_42_method_92_code 5 (some (.object "java/lang/String")) ws ⟨2, 0, 0, 29⟩ #[(.ref o1), (.int 0), (.int 4)] h0 (OwnQ (some (.ref o1)) h0 n0) := by
  refine bo (plainFor_of_name pn_2) ?_
  intro p e s m below meth c T0 G C hnm hnamed X0 e0 K
  have N0 := Fr.nil n0
  refine Goes.to (congrArg T0.setTop (ef_9rii m o1 (0 : Int32) (4 : Int32))) ?_
  refine g_aloadN C X0 d9_0 1 rfl rfl ?_
  refine g_callV0 C X0 (b_6 hw) F0 d9_1 [] [] 0 (rm7_4 hw Z0 F0 F1 F2 F3 F4 hcs) N0 pd_6 e0 4 (fun T1 _ X1 N1 e1 => ?_)
  refine g_istoreN C X1 d9_4 5 (w := 4) rfl (ls' := #[rv o1, iv 0, iv 4, iv 4, uu]) rfl ?_
  refine g_iloadN C X1 d9_5 6 rfl ?_
  refine g_iloadN C X1 d9_6 7 rfl ?_
  refine g_iloadN C X1 d9_7 8 rfl ?_
  refine g_callSn C X1 (b_7 hw) d9_8 [(.int 0), (.int 4), (.int 4)] [] 0 (rm10 hw Z0 F5 hwf (by decide) (by decide) (by decide)) N1 pd_7 e1 11 (fun T2 _ X2 N2 e2 => ?_)
  refine g_iloadN C X2 d9_11 12 rfl ?_
  refine g_if_ne C X2 d9_12 22 15 (fun hc12 => absurd hc12 (by decide)) (fun hc12 => ?_)
  refine g_iloadN C X2 d9_15 16 rfl ?_
  refine g_iloadN C X2 d9_16 17 rfl ?_
  refine g_icmp_ne C X2 d9_17 22 20 (fun hc17 => absurd hc17 (by decide)) (fun hc17 => ?_)
  refine g_aloadN C X2 d9_20 21 rfl rfl ?_
  exact g_retA C X2 K rfl rfl rfl d9_21 (by decide) (by decide) e2 ⟨rfl, N2, rfl⟩
theorem rm6_4_0_4 {o1 o2 : Addr} {kd1 : ClassId} {c1 c2 c3 c4 cs1 : Int32} {wf1 : Value} (hw : OwnW a0 Z) (Z0 : n0 ≤ h0.size) (F0 : OEs Z h0 o1) (F1 : OFv Z h0 o1 (.ref o2)) (F2 : OFc Z h0 o1) (F3 : Arv Z h0 o2 kd1 .byte 4 [(.int c1), (.int c2), (.int c3), (.int c4)] (.int 0)) (F4 : OSc Z h0 cs1) (F5 : OSf Z h0 wf1) (hcs : ¬ cs1 = (0 : Int32)) (hwf : wf1.isRef = true) (hs1 : fIs (own_ch c1) = (0 : Int32)) (hs4 : fIs (own_ch c4) = (0 : Int32)) : OwnMF l Z y6 prog_35_method_2_code 3 (some (.object "java/lang/String")) ws ⟨4, 0, 0, 53⟩ #[(.ref o1)] h0 (OwnQ (some (.ref o1)) h0 n0) := by
  refine bo (plainFor_of_name pn_6) ?_
  intro p e s m below meth c T0 G C hnm hnamed X0 e0 K
  have N0 := Fr.nil n0
  refine Goes.to (congrArg T0.setTop (ef_6r m o1)) ?_
  refine g_iconst C X0 d6_0 1 (v := 0) rfl ?_
  refine g_istoreN C X0 d6_1 2 (w := 0) rfl (ls' := #[rv o1, iv 0, uu]) rfl ?_
  refine g_aloadN C X0 d6_2 3 rfl rfl ?_
  refine g_callV0 C X0 (b_8 hw) F0 d6_3 [] [] 0 (rm7_4 hw Z0 F0 F1 F2 F3 F4 hcs) N0 pd_6 e0 6 (fun T1 _ X1 N1 e1 => ?_)
  refine g_istoreN C X1 d6_6 7 (w := 4) rfl (ls' := #[rv o1, iv 0, iv 4]) rfl ?_
  refine g_iloadN C X1 d6_7 8 rfl ?_
  refine g_iloadN C X1 d6_8 9 rfl ?_
  refine g_icmp_ge C X1 d6_9 29 12 (fun hc9 => absurd hc9 (by decide)) (fun hc9 => ?_)
  refine g_aloadN C X1 d6_12 13 rfl rfl ?_
  refine g_iloadN C X1 d6_13 14 rfl ?_
  refine g_callV0 C X1 (b_10 hw) F0 d6_14 [(.int 0)] [] 0 (rm16_4_0 hw Z0 F0 F1 F2 F3 F4 F5 hcs hwf) N1 pd_9 e1 17 (fun T2 _ X2 N2 e2 => ?_)
  refine g_callS0 C X2 (b_11 hw) d6_17 [(.int (own_ch c1))] [] 0 (rm21 hw Z0) N2 pd_10 e2 20 (fun T3 _ X3 N3 e3 => ?_)
  refine g_if_eq C X3 d6_20 29 23 (fun hc20 => ?_) (fun hc20 => absurd hs1 hc20)
  refine g_iloadN C X3 d6_29 30 rfl ?_
  refine g_iloadN C X3 d6_30 31 rfl ?_
  refine g_icmp_le C X3 d6_31 53 34 (fun hc31 => absurd hc31 (by decide)) (fun hc31 => ?_)
  refine g_aloadN C X3 d6_34 35 rfl rfl ?_
  refine g_iloadN C X3 d6_35 36 rfl ?_
  refine g_iconst C X3 d6_36 37 (v := 1) rfl ?_
  refine g_isub C X3 d6_37 38 ?_
  rw [show (4 : Int32) - 1 = 3 from by decide]
  refine g_callV0 C X3 (b_10 hw) F0 d6_38 [(.int 3)] [] 0 (rm16_4_3 hw Z0 F0 F1 F2 F3 F4 F5 hcs hwf) N3 pd_9 e3 41 (fun T4 _ X4 N4 e4 => ?_)
  refine g_callS0 C X4 (b_11 hw) d6_41 [(.int (own_ch c4))] [] 0 (rm21 hw Z0) N4 pd_10 e4 44 (fun T5 _ X5 N5 e5 => ?_)
  refine g_if_eq C X5 d6_44 53 47 (fun hc44 => ?_) (fun hc44 => absurd hs4 hc44)
  refine g_aloadN C X5 d6_53 54 rfl rfl ?_
  refine g_iloadN C X5 d6_54 55 rfl ?_
  refine g_iloadN C X5 d6_55 56 rfl ?_
  refine g_callV0 C X5 (b_9 hw) F0 d6_56 [(.int 0), (.int 4)] [] 0 (rm9_4_0_4 hw Z0 F0 F1 F2 F3 F4 F5 hcs hwf) N5 pd_8 e5 59 (fun T6 _ X6 N6 e6 => ?_)
  exact g_retA C X6 K rfl rfl rfl d6_59 (by decide) (by decide) e6 ⟨rfl, N6, rfl⟩
def Q24_4_1_2 (Z : State) (o1 : Addr) (kd1 : ClassId) (c1 : Int32) (c2 : Int32) (c3 : Int32) (c4 : Int32) (h0 : Heap) (n0 : Nat) (v : Option Value) (h : Heap) (L : List Loc) : Prop := ∃ (o3 : Addr) (kd3 : ClassId), v = some (.ref o3) ∧ Fr n0 L ∧ h0.size ≤ o3 ∧ Keep h0 h [] ∧ Arv Z h o3 kd3 .byte 1 [(.int c2)] (.int 0)
theorem rm24_4_1_2 {o1 : Addr} {kd1 : ClassId} {c1 c2 c3 c4 : Int32} (hw : OwnW a0 Z) (Z0 : n0 ≤ h0.size) (F0 : Arv Z h0 o1 kd1 .byte 4 [(.int c1), (.int c2), (.int c3), (.int c4)] (.int 0)) : OwnMF l Z y24 jdk_65_method_133_code 5 (some (.array .byte)) ws ⟨1, 1, 1, 18⟩ #[(.ref o1), (.int 1), (.int 2)] h0 (Q24_4_1_2 Z o1 kd1 c1 c2 c3 c4 h0 n0) := by
  refine bo (plainFor_of_name pn_23) ?_
  intro p e s m below meth c T0 G C hnm hnamed X0 e0 K
  have N0 := Fr.nil n0
  refine Goes.to (congrArg T0.setTop (ef_24rii m o1 (1 : Int32) (2 : Int32))) ?_
  have K00 := Keep.refl h0 []
  refine g_iloadN C X0 d24_0 1 rfl ?_
  refine g_iloadN C X0 d24_1 2 rfl ?_
  refine g_callSn C X0 (b_12 hw) d24_2 [(.int 1), (.int 2)] [] 0 (rm25_1_2 hw Z0 ) N0 pd_1 e0 5 (fun T1 _ X1 N1 e1 => ?_)
  refine g_iloadN C X1 d24_5 6 rfl ?_
  refine g_iloadN C X1 d24_6 7 rfl ?_
  refine g_isub C X1 d24_7 8 ?_
  rw [show (2 : Int32) - 1 = 1 from by decide]
  refine g_istoreN C X1 d24_8 9 (w := 1) rfl (ls' := #[rv o1, iv 1, iv 2, iv 1, uu]) rfl ?_
  refine g_iloadN C X1 d24_9 10 rfl ?_
  refine g_newA (aty := .byte) (n := (1 : Int32)) C X1 (cap := 1) (w_20 hw) e1 d24_10 12 (by decide) (by decide) (by decide) (by decide) (by decide) (fun T2 h2 b2 ki2 X2 e2 g2 E2 A2 => ?_)
  have f4 := F0.ext E2
  have gn_b2 : n0 ≤ b2 := Nat.le_trans Z0 (Nat.le_of_eq g2.symm)
  have Z2 := Nat.le_trans Z0 E2.1
  have sz_b2 : h0.size ≤ b2 := Nat.le_trans K00.1 (Nat.le_of_eq g2.symm)
  have K2 := K00.ext E2
  have f5 : Arv Z h2 b2 ki2 .byte 1 [(.int 0)] (.int 0) := A2.pad (pad_rep [] (.int 0) 1)
  refine g_astore C X2 d24_12 14 rfl (ls' := #[rv o1, iv 1, iv 2, iv 1, rv b2]) rfl ?_
  refine g_aloadN C X2 d24_14 15 rfl rfl ?_
  refine g_iloadN C X2 d24_15 16 rfl ?_
  refine g_aload C X2 d24_16 18 rfl rfl ?_
  refine g_iconst C X2 d24_18 19 (v := 0) rfl ?_
  refine g_aloadN C X2 d24_19 20 rfl rfl ?_
  refine g_arraylength C X2 e2 f4 d24_20 21 ?_
  refine g_iloadN C X2 d24_21 22 rfl ?_
  refine g_isub C X2 d24_22 23 ?_
  rw [show (4 : Int32) - 1 = 3 from by decide]
  refine g_iloadN C X2 d24_23 24 rfl ?_
  refine g_callS0 C X2 (b_13 hw) d24_24 [(.int 3), (.int 1)] [(.int 0), (.ref b2), (.int 1), (.ref o1)] 4 (rm26 hw Z2) N1 pd_11 e2 27 (fun T6 _ X6 N6 e6 => ?_)
  rw [show fMin (3 : Int32) (1 : Int32) = (1 : Int32) from by decide]
  refine g_acopy C X6 (us := [(.int c2)]) (ur := [(.int c2)]) (w_115 hw) (w_118 hw) (w_116 hw) (w_117 hw) e6 f4 f5 rfl (by decide) (by decide) (by decide) (by decide) (by decide) rfl (by simp; try decide) rfl N6 gn_b2 rfl d24_27 30 (by decide) (W := 0) (Nat.le_of_eq rfl) (by decide) (fun T7 h7 L7 X7 e7 N7 Kq7 V7 => ?_)
  have K7 := K2.trans Kq7 (allS (Or.inr sz_b2) all0)
  refine g_aload C X7 d24_30 32 rfl rfl ?_
  exact g_retA C X7 K rfl rfl rfl d24_32 (by decide) (by decide) e7 ⟨b2, ki2, rfl, N7, sz_b2, K7, V7⟩
def Q23_4_1_2 (Z : State) (o1 : Addr) (kd1 : ClassId) (c1 : Int32) (c2 : Int32) (c3 : Int32) (c4 : Int32) (h0 : Heap) (n0 : Nat) (v : Option Value) (h : Heap) (L : List Loc) : Prop := ∃ (o3 : Addr) (kd3 : ClassId), v = some (.ref o3) ∧ Fr n0 L ∧ h0.size ≤ o3 ∧ Keep h0 h [] ∧ Arv Z h o3 kd3 .byte 1 [(.int c2)] (.int 0)
theorem rm23_4_1_2 {o1 : Addr} {kd1 : ClassId} {c1 c2 c3 c4 : Int32} (hw : OwnW a0 Z) (Z0 : n0 ≤ h0.size) (F0 : Arv Z h0 o1 kd1 .byte 4 [(.int c1), (.int c2), (.int c3), (.int c4)] (.int 0)) : OwnMF l Z y23 jdk_65_method_132_code 3 (some (.array .byte)) ws ⟨2, 1, 1, 34⟩ #[(.ref o1), (.int 1), (.int 2)] h0 (Q23_4_1_2 Z o1 kd1 c1 c2 c3 c4 h0 n0) := by
  refine bo (plainFor_of_name pn_23) ?_
  intro p e s m below meth c T0 G C hnm hnamed X0 e0 K
  have N0 := Fr.nil n0
  refine Goes.to (congrArg T0.setTop (ef_23rii m o1 (1 : Int32) (2 : Int32))) ?_
  have K00 := Keep.refl h0 []
  refine g_iloadN C X0 d23_0 1 rfl ?_
  refine g_if_ne C X0 d23_1 10 4 (fun hc1 => ?_) (fun hc1 => absurd hc1 (by decide))
  refine g_aloadN C X0 d23_10 11 rfl rfl ?_
  refine g_iloadN C X0 d23_11 12 rfl ?_
  refine g_iloadN C X0 d23_12 13 rfl ?_
  refine g_callS C X0 (w_106 hw) (w_107 hw) (w_104 hw) (w_108 hw) d23_13 [(.ref o1), (.int 1), (.int 2)] [] 0 (rm24_4_1_2 hw Z0 F0) pd_12 e0 16 (fun u1 T1 L1 X1 hQ1 => ?_)
  obtain ⟨o31, kd31, rfl, Nq1, szo31, Kq1, q1_0⟩ := hQ1
  have N1 := Fr.app N0 Nq1
  have sz_o31 : h0.size ≤ o31 := Nat.le_trans K00.1 szo31
  have K1 := K00.trans Kq1 all0
  refine ret1 ?_
  exact g_retA C X1 K rfl rfl rfl d23_16 (by decide) (by decide) rfl ⟨o31, kd31, rfl, N1, sz_o31, K1, q1_0⟩
def Q22_4_1_1 (Z : State) (o1 : Addr) (kd1 : ClassId) (c1 : Int32) (c2 : Int32) (c3 : Int32) (c4 : Int32) (h0 : Heap) (n0 : Nat) (v : Option Value) (h : Heap) (L : List Loc) : Prop := ∃ (o3 : Addr) (o4 : Addr) (kd3 : ClassId), v = some (.ref o3) ∧ Fr n0 L ∧ h0.size ≤ o3 ∧ h0.size ≤ o4 ∧ Keep h0 h [] ∧ OEs Z h o3 ∧ OFv Z h o3 (.ref o4) ∧ OFc Z h o3 ∧ Arv Z h o4 kd3 .byte 1 [(.int c2)] (.int 0)
theorem rm22_4_1_1 {o1 : Addr} {kd1 : ClassId} {c1 c2 c3 c4 : Int32} (hw : OwnW a0 Z) (Z0 : n0 ≤ h0.size) (F0 : Arv Z h0 o1 kd1 .byte 4 [(.int c1), (.int c2), (.int c3), (.int c4)] (.int 0)) : OwnMF l Z y22 jdk_43_method_47_code 3 (some (.object "java/lang/String")) ws ⟨3, 2, 5, 50⟩ #[(.ref o1), (.int 1), (.int 1)] h0 (Q22_4_1_1 Z o1 kd1 c1 c2 c3 c4 h0 n0) := by
  refine bo (plainFor_of_name pn_18) ?_
  intro p e s m below meth c T0 G C hnm hnamed X0 e0 K
  have N0 := Fr.nil n0
  refine Goes.to (congrArg T0.setTop (ef_22rii m o1 (1 : Int32) (1 : Int32))) ?_
  have K00 := Keep.refl h0 []
  refine g_iloadN C X0 d22_0 1 rfl ?_
  refine g_if_ne C X0 d22_1 7 4 (fun hc1 => ?_) (fun hc1 => absurd hc1 (by decide))
  refine g_new C X0 (w_101 hw) (w_7 hw) (w_8 hw) e0 d22_7 10 (by decide) (by decide) (fun T1 h1 b1 X1 e1 g1 E1 A1 D1 => ?_)
  have f3 := F0.ext E1
  have gn_b1 : n0 ≤ b1 := Nat.le_trans Z0 (Nat.le_of_eq g1.symm)
  have Z1 := Nat.le_trans Z0 E1.1
  have sz_b1 : h0.size ≤ b1 := Nat.le_trans K00.1 (Nat.le_of_eq g1.symm)
  have K1 := K00.ext E1
  have f4 : OFv Z h1 b1 .null := D1 (Or.inr (w_21 hw)) (ty := (.array .byte)) (by decide)
  have f5 : OFc Z h1 b1 := D1 (Or.inr (w_22 hw)) (ty := .byte) (by decide)
  refine g_dup C X1 d22_10 11 rfl ?_
  refine g_aloadN C X1 d22_11 12 rfl rfl ?_
  refine g_iloadN C X1 d22_12 13 rfl ?_
  refine g_iloadN C X1 d22_13 14 rfl ?_
  refine g_iloadN C X1 d22_14 15 rfl ?_
  refine g_iadd C X1 d22_15 16 ?_
  rw [show (1 : Int32) + 1 = 2 from by decide]
  refine g_callS C X1 (w_102 hw) (w_103 hw) (w_104 hw) (w_105 hw) d22_16 [(.ref o1), (.int 1), (.int 2)] [(.ref b1), (.ref b1)] 2 (rm23_4_1_2 hw Z1 f3) pd_12 e1 19 (fun u6 T6 L6 X6 hQ6 => ?_)
  obtain ⟨o36, kd36, rfl, Nq6, szo36, Kq6, q6_0⟩ := hQ6
  have N6 := Fr.app N0 Nq6
  have n7 : b1 ≠ o36 := Nat.ne_of_lt (Nat.lt_of_lt_of_le A1.lt szo36)
  have f10 := A1.keep Kq6
  have f11 := f4.keep Kq6 nin0
  have f12 := f5.keep Kq6 nin0
  have Z6 := Nat.le_trans Z1 Kq6.1
  have sz_o36 : h0.size ≤ o36 := Nat.le_trans K1.1 szo36
  have K6 := K1.trans Kq6 all0
  refine ret1 ?_
  refine g_iconst C X6 d22_19 20 (v := 0) rfl ?_
  refine g_callI C X6 rfl (w_119 hw) (w_120 hw) (w_8 hw) (w_121 hw) d22_20 [(.ref o36), (.int 0)] [(.ref b1)] 1 (rm27 hw Z6 f10 f11 f12 gn_b1) pd_13 rfl 23 (fun u13 T13 L13 X13 hQ13 => ?_)
  obtain ⟨rfl, Nq13, Kq13, q13_0, q13_1, q13_2⟩ := hQ13
  have N13 := Fr.app N6 Nq13
  have f16 := q6_0.keep Kq13 (ninS (Ne.symm n7) nin0)
  have K13 := K6.trans Kq13 (allS (Or.inr sz_b1) all0)
  refine ret0 ?_
  exact g_retA C X13 K rfl rfl rfl d22_23 (by decide) (by decide) rfl ⟨b1, o36, kd36, rfl, N13, sz_b1, sz_o36, K13, q13_0, q13_1, q13_2, f16⟩
def Q9_4_1_2 (Z : State) (o1 : Addr) (o2 : Addr) (kd1 : ClassId) (c1 : Int32) (c2 : Int32) (c3 : Int32) (c4 : Int32) (cs1 : Int32) (wf1 : Value) (h0 : Heap) (n0 : Nat) (v : Option Value) (h : Heap) (L : List Loc) : Prop := ∃ (o3 : Addr) (o4 : Addr) (kd3 : ClassId), v = some (.ref o3) ∧ Fr n0 L ∧ h0.size ≤ o3 ∧ h0.size ≤ o4 ∧ Keep h0 h [] ∧ OEs Z h o3 ∧ OFv Z h o3 (.ref o4) ∧ OFc Z h o3 ∧ Arv Z h o4 kd3 .byte 1 [(.int c2)] (.int 0)
theorem rm9_4_1_2 {o1 o2 : Addr} {kd1 : ClassId} {c1 c2 c3 c4 cs1 : Int32} {wf1 : Value} (hw : OwnW a0 Z) (Z0 : n0 ≤ h0.size) (F0 : OEs Z h0 o1) (F1 : OFv Z h0 o1 (.ref o2)) (F2 : OFc Z h0 o1) (F3 : Arv Z h0 o2 kd1 .byte 4 [(.int c1), (.int c2), (.int c3), (.int c4)] (.int 0)) (F4 : OSc Z h0 cs1) (F5 : OSf Z h0 wf1) (hcs : ¬ cs1 = (0 : Int32)) (hwf : wf1.isRef = true) : OwnMF l Z y9 jdk_42_method_92_code 5 (some (.object "java/lang/String")) ws ⟨4, 2, 5, 64⟩ #[(.ref o1), (.int 1), (.int 2)] h0 (Q9_4_1_2 Z o1 o2 kd1 c1 c2 c3 c4 cs1 wf1 h0 n0) := by
  refine bo (plainFor_of_name pn_2) ?_
  intro p e s m below meth c T0 G C hnm hnamed X0 e0 K
  have N0 := Fr.nil n0
  refine Goes.to (congrArg T0.setTop (ef_9rii m o1 (1 : Int32) (2 : Int32))) ?_
  have K00 := Keep.refl h0 []
  refine g_aloadN C X0 d9_0 1 rfl rfl ?_
  refine g_callV0 C X0 (b_6 hw) F0 d9_1 [] [] 0 (rm7_4 hw Z0 F0 F1 F2 F3 F4 hcs) N0 pd_6 e0 4 (fun T1 _ X1 N1 e1 => ?_)
  refine g_istoreN C X1 d9_4 5 (w := 4) rfl (ls' := #[rv o1, iv 1, iv 2, iv 4, uu]) rfl ?_
  refine g_iloadN C X1 d9_5 6 rfl ?_
  refine g_iloadN C X1 d9_6 7 rfl ?_
  refine g_iloadN C X1 d9_7 8 rfl ?_
  refine g_callSn C X1 (b_7 hw) d9_8 [(.int 1), (.int 2), (.int 4)] [] 0 (rm10 hw Z0 F5 hwf (by decide) (by decide) (by decide)) N1 pd_7 e1 11 (fun T2 _ X2 N2 e2 => ?_)
  refine g_iloadN C X2 d9_11 12 rfl ?_
  refine g_if_ne C X2 d9_12 22 15 (fun hc12 => ?_) (fun hc12 => absurd hc12 (by decide))
  refine g_iloadN C X2 d9_22 23 rfl ?_
  refine g_iloadN C X2 d9_23 24 rfl ?_
  refine g_isub C X2 d9_24 25 ?_
  rw [show (2 : Int32) - 1 = 1 from by decide]
  refine g_istore C X2 d9_25 27 (w := 1) rfl (ls' := #[rv o1, iv 1, iv 2, iv 4, iv 1]) rfl ?_
  refine g_aloadN C X2 d9_27 28 rfl rfl ?_
  refine g_callV0 C X2 (b_2 hw) F0 d9_28 [] [] 0 (rm17 hw Z0 F2 F4 hcs) N2 pd_2 e2 31 (fun T3 _ X3 N3 e3 => ?_)
  refine g_if_eq C X3 d9_31 47 34 (fun hc31 => absurd hc31 (by decide)) (fun hc31 => ?_)
  refine g_aloadN C X3 d9_34 35 rfl rfl ?_
  refine g_getF C X3 (w_25 hw) Via.refl e3 F1 d9_35 38 (fun T4 X4 e4 => ?_)
  refine g_iloadN C X4 d9_38 39 rfl ?_
  refine g_iload C X4 d9_39 41 rfl ?_
  refine g_callS C X4 (w_98 hw) (w_99 hw) (w_86 hw) (w_100 hw) d9_41 [(.ref o2), (.int 1), (.int 1)] [] 0 (rm22_4_1_1 hw Z0 F3) pd_14 e4 44 (fun u5 T5 L5 X5 hQ5 => ?_)
  obtain ⟨o35, o45, kd35, rfl, Nq5, szo35, szo45, Kq5, q5_0, q5_1, q5_2, q5_3⟩ := hQ5
  have N5 := Fr.app N3 Nq5
  have sz_o35 : h0.size ≤ o35 := Nat.le_trans K00.1 szo35
  have sz_o45 : h0.size ≤ o45 := Nat.le_trans K00.1 szo45
  have K5 := K00.trans Kq5 all0
  refine ret1 ?_
  refine g_goto C X5 d9_44 57 ?_
  exact g_retA C X5 K rfl rfl rfl d9_57 (by decide) (by decide) rfl ⟨o35, o45, kd35, rfl, N5, sz_o35, sz_o45, K5, q5_0, q5_1, q5_2, q5_3⟩
def Q6_4_1_2 (Z : State) (o1 : Addr) (o2 : Addr) (kd1 : ClassId) (c1 : Int32) (c2 : Int32) (c3 : Int32) (c4 : Int32) (cs1 : Int32) (wf1 : Value) (h0 : Heap) (n0 : Nat) (v : Option Value) (h : Heap) (L : List Loc) : Prop := ∃ (o3 : Addr) (o4 : Addr) (kd3 : ClassId), v = some (.ref o3) ∧ Fr n0 L ∧ h0.size ≤ o3 ∧ h0.size ≤ o4 ∧ Keep h0 h [] ∧ OEs Z h o3 ∧ OFv Z h o3 (.ref o4) ∧ OFc Z h o3 ∧ Arv Z h o4 kd3 .byte 1 [(.int c2)] (.int 0)
theorem rm6_4_1_2 {o1 o2 : Addr} {kd1 : ClassId} {c1 c2 c3 c4 cs1 : Int32} {wf1 : Value} (hw : OwnW a0 Z) (Z0 : n0 ≤ h0.size) (F0 : OEs Z h0 o1) (F1 : OFv Z h0 o1 (.ref o2)) (F2 : OFc Z h0 o1) (F3 : Arv Z h0 o2 kd1 .byte 4 [(.int c1), (.int c2), (.int c3), (.int c4)] (.int 0)) (F4 : OSc Z h0 cs1) (F5 : OSf Z h0 wf1) (hcs : ¬ cs1 = (0 : Int32)) (hwf : wf1.isRef = true) (hs1 : ¬ fIs (own_ch c1) = (0 : Int32)) (hs2 : fIs (own_ch c2) = (0 : Int32)) (hs3 : ¬ fIs (own_ch c3) = (0 : Int32)) (hs4 : ¬ fIs (own_ch c4) = (0 : Int32)) : OwnMF l Z y6 prog_35_method_2_code 3 (some (.object "java/lang/String")) ws ⟨5, 2, 5, 80⟩ #[(.ref o1)] h0 (Q6_4_1_2 Z o1 o2 kd1 c1 c2 c3 c4 cs1 wf1 h0 n0) := by
  refine bo (plainFor_of_name pn_6) ?_
  intro p e s m below meth c T0 G C hnm hnamed X0 e0 K
  have N0 := Fr.nil n0
  refine Goes.to (congrArg T0.setTop (ef_6r m o1)) ?_
  have K00 := Keep.refl h0 []
  refine g_iconst C X0 d6_0 1 (v := 0) rfl ?_
  refine g_istoreN C X0 d6_1 2 (w := 0) rfl (ls' := #[rv o1, iv 0, uu]) rfl ?_
  refine g_aloadN C X0 d6_2 3 rfl rfl ?_
  refine g_callV0 C X0 (b_8 hw) F0 d6_3 [] [] 0 (rm7_4 hw Z0 F0 F1 F2 F3 F4 hcs) N0 pd_6 e0 6 (fun T1 _ X1 N1 e1 => ?_)
  refine g_istoreN C X1 d6_6 7 (w := 4) rfl (ls' := #[rv o1, iv 0, iv 4]) rfl ?_
  refine g_iloadN C X1 d6_7 8 rfl ?_
  refine g_iloadN C X1 d6_8 9 rfl ?_
  refine g_icmp_ge C X1 d6_9 29 12 (fun hc9 => absurd hc9 (by decide)) (fun hc9 => ?_)
  refine g_aloadN C X1 d6_12 13 rfl rfl ?_
  refine g_iloadN C X1 d6_13 14 rfl ?_
  refine g_callV0 C X1 (b_10 hw) F0 d6_14 [(.int 0)] [] 0 (rm16_4_0 hw Z0 F0 F1 F2 F3 F4 F5 hcs hwf) N1 pd_9 e1 17 (fun T2 _ X2 N2 e2 => ?_)
  refine g_callS0 C X2 (b_11 hw) d6_17 [(.int (own_ch c1))] [] 0 (rm21 hw Z0) N2 pd_10 e2 20 (fun T3 _ X3 N3 e3 => ?_)
  refine g_if_eq C X3 d6_20 29 23 (fun hc20 => absurd hc20 hs1) (fun hc20 => ?_)
  refine g_iinc C X3 d6_23 26 rfl (w := 1) rfl (ls' := #[rv o1, iv 1, iv 4]) rfl ?_
  refine g_goto C X3 d6_26 7 ?_
  refine g_iloadN C X3 d6_7 8 rfl ?_
  refine g_iloadN C X3 d6_8 9 rfl ?_
  refine g_icmp_ge C X3 d6_9 29 12 (fun hc9 => absurd hc9 (by decide)) (fun hc9 => ?_)
  refine g_aloadN C X3 d6_12 13 rfl rfl ?_
  refine g_iloadN C X3 d6_13 14 rfl ?_
  refine g_callV0 C X3 (b_10 hw) F0 d6_14 [(.int 1)] [] 0 (rm16_4_1 hw Z0 F0 F1 F2 F3 F4 F5 hcs hwf) N3 pd_9 e3 17 (fun T4 _ X4 N4 e4 => ?_)
  refine g_callS0 C X4 (b_11 hw) d6_17 [(.int (own_ch c2))] [] 0 (rm21 hw Z0) N4 pd_10 e4 20 (fun T5 _ X5 N5 e5 => ?_)
  refine g_if_eq C X5 d6_20 29 23 (fun hc20 => ?_) (fun hc20 => absurd hs2 hc20)
  refine g_iloadN C X5 d6_29 30 rfl ?_
  refine g_iloadN C X5 d6_30 31 rfl ?_
  refine g_icmp_le C X5 d6_31 53 34 (fun hc31 => absurd hc31 (by decide)) (fun hc31 => ?_)
  refine g_aloadN C X5 d6_34 35 rfl rfl ?_
  refine g_iloadN C X5 d6_35 36 rfl ?_
  refine g_iconst C X5 d6_36 37 (v := 1) rfl ?_
  refine g_isub C X5 d6_37 38 ?_
  rw [show (4 : Int32) - 1 = 3 from by decide]
  refine g_callV0 C X5 (b_10 hw) F0 d6_38 [(.int 3)] [] 0 (rm16_4_3 hw Z0 F0 F1 F2 F3 F4 F5 hcs hwf) N5 pd_9 e5 41 (fun T6 _ X6 N6 e6 => ?_)
  refine g_callS0 C X6 (b_11 hw) d6_41 [(.int (own_ch c4))] [] 0 (rm21 hw Z0) N6 pd_10 e6 44 (fun T7 _ X7 N7 e7 => ?_)
  refine g_if_eq C X7 d6_44 53 47 (fun hc44 => absurd hc44 hs4) (fun hc44 => ?_)
  refine g_iinc C X7 d6_47 50 rfl (w := 3) rfl (ls' := #[rv o1, iv 1, iv 3]) rfl ?_
  refine g_goto C X7 d6_50 29 ?_
  refine g_iloadN C X7 d6_29 30 rfl ?_
  refine g_iloadN C X7 d6_30 31 rfl ?_
  refine g_icmp_le C X7 d6_31 53 34 (fun hc31 => absurd hc31 (by decide)) (fun hc31 => ?_)
  refine g_aloadN C X7 d6_34 35 rfl rfl ?_
  refine g_iloadN C X7 d6_35 36 rfl ?_
  refine g_iconst C X7 d6_36 37 (v := 1) rfl ?_
  refine g_isub C X7 d6_37 38 ?_
  rw [show (3 : Int32) - 1 = 2 from by decide]
  refine g_callV0 C X7 (b_10 hw) F0 d6_38 [(.int 2)] [] 0 (rm16_4_2 hw Z0 F0 F1 F2 F3 F4 F5 hcs hwf) N7 pd_9 e7 41 (fun T8 _ X8 N8 e8 => ?_)
  refine g_callS0 C X8 (b_11 hw) d6_41 [(.int (own_ch c3))] [] 0 (rm21 hw Z0) N8 pd_10 e8 44 (fun T9 _ X9 N9 e9 => ?_)
  refine g_if_eq C X9 d6_44 53 47 (fun hc44 => absurd hc44 hs3) (fun hc44 => ?_)
  refine g_iinc C X9 d6_47 50 rfl (w := 2) rfl (ls' := #[rv o1, iv 1, iv 2]) rfl ?_
  refine g_goto C X9 d6_50 29 ?_
  refine g_iloadN C X9 d6_29 30 rfl ?_
  refine g_iloadN C X9 d6_30 31 rfl ?_
  refine g_icmp_le C X9 d6_31 53 34 (fun hc31 => absurd hc31 (by decide)) (fun hc31 => ?_)
  refine g_aloadN C X9 d6_34 35 rfl rfl ?_
  refine g_iloadN C X9 d6_35 36 rfl ?_
  refine g_iconst C X9 d6_36 37 (v := 1) rfl ?_
  refine g_isub C X9 d6_37 38 ?_
  rw [show (2 : Int32) - 1 = 1 from by decide]
  refine g_callV0 C X9 (b_10 hw) F0 d6_38 [(.int 1)] [] 0 (rm16_4_1 hw Z0 F0 F1 F2 F3 F4 F5 hcs hwf) N9 pd_9 e9 41 (fun T10 _ X10 N10 e10 => ?_)
  refine g_callS0 C X10 (b_11 hw) d6_41 [(.int (own_ch c2))] [] 0 (rm21 hw Z0) N10 pd_10 e10 44 (fun T11 _ X11 N11 e11 => ?_)
  refine g_if_eq C X11 d6_44 53 47 (fun hc44 => ?_) (fun hc44 => absurd hc20 hc44)
  refine g_aloadN C X11 d6_53 54 rfl rfl ?_
  refine g_iloadN C X11 d6_54 55 rfl ?_
  refine g_iloadN C X11 d6_55 56 rfl ?_
  refine g_callV C X11 (w_46 hw) (w_47 hw) (notFace_of_selects (args := #[]) (mvT C.2.1 (w_49 hw))) (w_49 hw) (w_48 hw) (w_50 hw) (w_8 hw) F0 d6_56 [(.int 1), (.int 2)] [] 0 (rm9_4_1_2 hw Z0 F0 F1 F2 F3 F4 F5 hcs hwf) pd_8 e11 59 (fun u12 T12 L12 X12 hQ12 => ?_)
  obtain ⟨o312, o412, kd312, rfl, Nq12, szo312, szo412, Kq12, q12_0, q12_1, q12_2, q12_3⟩ := hQ12
  have N12 := Fr.app N11 Nq12
  have sz_o312 : h0.size ≤ o312 := Nat.le_trans K00.1 szo312
  have sz_o412 : h0.size ≤ o412 := Nat.le_trans K00.1 szo412
  have K12 := K00.trans Kq12 all0
  refine ret1 ?_
  exact g_retA C X12 K rfl rfl rfl d6_59 (by decide) (by decide) rfl ⟨o312, o412, kd312, rfl, N12, sz_o312, sz_o412, K12, q12_0, q12_1, q12_2, q12_3⟩
def Q24_4_1_3 (Z : State) (o1 : Addr) (kd1 : ClassId) (c1 : Int32) (c2 : Int32) (c3 : Int32) (c4 : Int32) (h0 : Heap) (n0 : Nat) (v : Option Value) (h : Heap) (L : List Loc) : Prop := ∃ (o3 : Addr) (kd3 : ClassId), v = some (.ref o3) ∧ Fr n0 L ∧ h0.size ≤ o3 ∧ Keep h0 h [] ∧ Arv Z h o3 kd3 .byte 2 [(.int c2), (.int c3)] (.int 0)
theorem rm24_4_1_3 {o1 : Addr} {kd1 : ClassId} {c1 c2 c3 c4 : Int32} (hw : OwnW a0 Z) (Z0 : n0 ≤ h0.size) (F0 : Arv Z h0 o1 kd1 .byte 4 [(.int c1), (.int c2), (.int c3), (.int c4)] (.int 0)) : OwnMF l Z y24 jdk_65_method_133_code 5 (some (.array .byte)) ws ⟨1, 1, 2, 18⟩ #[(.ref o1), (.int 1), (.int 3)] h0 (Q24_4_1_3 Z o1 kd1 c1 c2 c3 c4 h0 n0) := by
  refine bo (plainFor_of_name pn_23) ?_
  intro p e s m below meth c T0 G C hnm hnamed X0 e0 K
  have N0 := Fr.nil n0
  refine Goes.to (congrArg T0.setTop (ef_24rii m o1 (1 : Int32) (3 : Int32))) ?_
  have K00 := Keep.refl h0 []
  refine g_iloadN C X0 d24_0 1 rfl ?_
  refine g_iloadN C X0 d24_1 2 rfl ?_
  refine g_callSn C X0 (b_12 hw) d24_2 [(.int 1), (.int 3)] [] 0 (rm25_1_3 hw Z0 ) N0 pd_1 e0 5 (fun T1 _ X1 N1 e1 => ?_)
  refine g_iloadN C X1 d24_5 6 rfl ?_
  refine g_iloadN C X1 d24_6 7 rfl ?_
  refine g_isub C X1 d24_7 8 ?_
  rw [show (3 : Int32) - 1 = 2 from by decide]
  refine g_istoreN C X1 d24_8 9 (w := 2) rfl (ls' := #[rv o1, iv 1, iv 3, iv 2, uu]) rfl ?_
  refine g_iloadN C X1 d24_9 10 rfl ?_
  refine g_newA (aty := .byte) (n := (2 : Int32)) C X1 (cap := 2) (w_20 hw) e1 d24_10 12 (by decide) (by decide) (by decide) (by decide) (by decide) (fun T2 h2 b2 ki2 X2 e2 g2 E2 A2 => ?_)
  have f4 := F0.ext E2
  have gn_b2 : n0 ≤ b2 := Nat.le_trans Z0 (Nat.le_of_eq g2.symm)
  have Z2 := Nat.le_trans Z0 E2.1
  have sz_b2 : h0.size ≤ b2 := Nat.le_trans K00.1 (Nat.le_of_eq g2.symm)
  have K2 := K00.ext E2
  have f5 : Arv Z h2 b2 ki2 .byte 2 [(.int 0), (.int 0)] (.int 0) := A2.pad (pad_rep [] (.int 0) 2)
  refine g_astore C X2 d24_12 14 rfl (ls' := #[rv o1, iv 1, iv 3, iv 2, rv b2]) rfl ?_
  refine g_aloadN C X2 d24_14 15 rfl rfl ?_
  refine g_iloadN C X2 d24_15 16 rfl ?_
  refine g_aload C X2 d24_16 18 rfl rfl ?_
  refine g_iconst C X2 d24_18 19 (v := 0) rfl ?_
  refine g_aloadN C X2 d24_19 20 rfl rfl ?_
  refine g_arraylength C X2 e2 f4 d24_20 21 ?_
  refine g_iloadN C X2 d24_21 22 rfl ?_
  refine g_isub C X2 d24_22 23 ?_
  rw [show (4 : Int32) - 1 = 3 from by decide]
  refine g_iloadN C X2 d24_23 24 rfl ?_
  refine g_callS0 C X2 (b_13 hw) d24_24 [(.int 3), (.int 2)] [(.int 0), (.ref b2), (.int 1), (.ref o1)] 4 (rm26 hw Z2) N1 pd_11 e2 27 (fun T6 _ X6 N6 e6 => ?_)
  rw [show fMin (3 : Int32) (2 : Int32) = (2 : Int32) from by decide]
  refine g_acopy C X6 (us := [(.int c2), (.int c3)]) (ur := [(.int c2), (.int c3)]) (w_115 hw) (w_118 hw) (w_116 hw) (w_117 hw) e6 f4 f5 rfl (by decide) (by decide) (by decide) (by decide) (by decide) rfl (by simp; try decide) rfl N6 gn_b2 rfl d24_27 30 (by decide) (W := 0) (Nat.le_of_eq rfl) (by decide) (fun T7 h7 L7 X7 e7 N7 Kq7 V7 => ?_)
  have K7 := K2.trans Kq7 (allS (Or.inr sz_b2) all0)
  refine g_aload C X7 d24_30 32 rfl rfl ?_
  exact g_retA C X7 K rfl rfl rfl d24_32 (by decide) (by decide) e7 ⟨b2, ki2, rfl, N7, sz_b2, K7, V7⟩
def Q23_4_1_3 (Z : State) (o1 : Addr) (kd1 : ClassId) (c1 : Int32) (c2 : Int32) (c3 : Int32) (c4 : Int32) (h0 : Heap) (n0 : Nat) (v : Option Value) (h : Heap) (L : List Loc) : Prop := ∃ (o3 : Addr) (kd3 : ClassId), v = some (.ref o3) ∧ Fr n0 L ∧ h0.size ≤ o3 ∧ Keep h0 h [] ∧ Arv Z h o3 kd3 .byte 2 [(.int c2), (.int c3)] (.int 0)
theorem rm23_4_1_3 {o1 : Addr} {kd1 : ClassId} {c1 c2 c3 c4 : Int32} (hw : OwnW a0 Z) (Z0 : n0 ≤ h0.size) (F0 : Arv Z h0 o1 kd1 .byte 4 [(.int c1), (.int c2), (.int c3), (.int c4)] (.int 0)) : OwnMF l Z y23 jdk_65_method_132_code 3 (some (.array .byte)) ws ⟨2, 1, 2, 34⟩ #[(.ref o1), (.int 1), (.int 3)] h0 (Q23_4_1_3 Z o1 kd1 c1 c2 c3 c4 h0 n0) := by
  refine bo (plainFor_of_name pn_23) ?_
  intro p e s m below meth c T0 G C hnm hnamed X0 e0 K
  have N0 := Fr.nil n0
  refine Goes.to (congrArg T0.setTop (ef_23rii m o1 (1 : Int32) (3 : Int32))) ?_
  have K00 := Keep.refl h0 []
  refine g_iloadN C X0 d23_0 1 rfl ?_
  refine g_if_ne C X0 d23_1 10 4 (fun hc1 => ?_) (fun hc1 => absurd hc1 (by decide))
  refine g_aloadN C X0 d23_10 11 rfl rfl ?_
  refine g_iloadN C X0 d23_11 12 rfl ?_
  refine g_iloadN C X0 d23_12 13 rfl ?_
  refine g_callS C X0 (w_106 hw) (w_107 hw) (w_104 hw) (w_108 hw) d23_13 [(.ref o1), (.int 1), (.int 3)] [] 0 (rm24_4_1_3 hw Z0 F0) pd_12 e0 16 (fun u1 T1 L1 X1 hQ1 => ?_)
  obtain ⟨o31, kd31, rfl, Nq1, szo31, Kq1, q1_0⟩ := hQ1
  have N1 := Fr.app N0 Nq1
  have sz_o31 : h0.size ≤ o31 := Nat.le_trans K00.1 szo31
  have K1 := K00.trans Kq1 all0
  refine ret1 ?_
  exact g_retA C X1 K rfl rfl rfl d23_16 (by decide) (by decide) rfl ⟨o31, kd31, rfl, N1, sz_o31, K1, q1_0⟩
def Q22_4_1_2 (Z : State) (o1 : Addr) (kd1 : ClassId) (c1 : Int32) (c2 : Int32) (c3 : Int32) (c4 : Int32) (h0 : Heap) (n0 : Nat) (v : Option Value) (h : Heap) (L : List Loc) : Prop := ∃ (o3 : Addr) (o4 : Addr) (kd3 : ClassId), v = some (.ref o3) ∧ Fr n0 L ∧ h0.size ≤ o3 ∧ h0.size ≤ o4 ∧ Keep h0 h [] ∧ OEs Z h o3 ∧ OFv Z h o3 (.ref o4) ∧ OFc Z h o3 ∧ Arv Z h o4 kd3 .byte 2 [(.int c2), (.int c3)] (.int 0)
theorem rm22_4_1_2 {o1 : Addr} {kd1 : ClassId} {c1 c2 c3 c4 : Int32} (hw : OwnW a0 Z) (Z0 : n0 ≤ h0.size) (F0 : Arv Z h0 o1 kd1 .byte 4 [(.int c1), (.int c2), (.int c3), (.int c4)] (.int 0)) : OwnMF l Z y22 jdk_43_method_47_code 3 (some (.object "java/lang/String")) ws ⟨3, 2, 6, 50⟩ #[(.ref o1), (.int 1), (.int 2)] h0 (Q22_4_1_2 Z o1 kd1 c1 c2 c3 c4 h0 n0) := by
  refine bo (plainFor_of_name pn_18) ?_
  intro p e s m below meth c T0 G C hnm hnamed X0 e0 K
  have N0 := Fr.nil n0
  refine Goes.to (congrArg T0.setTop (ef_22rii m o1 (1 : Int32) (2 : Int32))) ?_
  have K00 := Keep.refl h0 []
  refine g_iloadN C X0 d22_0 1 rfl ?_
  refine g_if_ne C X0 d22_1 7 4 (fun hc1 => ?_) (fun hc1 => absurd hc1 (by decide))
  refine g_new C X0 (w_101 hw) (w_7 hw) (w_8 hw) e0 d22_7 10 (by decide) (by decide) (fun T1 h1 b1 X1 e1 g1 E1 A1 D1 => ?_)
  have f3 := F0.ext E1
  have gn_b1 : n0 ≤ b1 := Nat.le_trans Z0 (Nat.le_of_eq g1.symm)
  have Z1 := Nat.le_trans Z0 E1.1
  have sz_b1 : h0.size ≤ b1 := Nat.le_trans K00.1 (Nat.le_of_eq g1.symm)
  have K1 := K00.ext E1
  have f4 : OFv Z h1 b1 .null := D1 (Or.inr (w_21 hw)) (ty := (.array .byte)) (by decide)
  have f5 : OFc Z h1 b1 := D1 (Or.inr (w_22 hw)) (ty := .byte) (by decide)
  refine g_dup C X1 d22_10 11 rfl ?_
  refine g_aloadN C X1 d22_11 12 rfl rfl ?_
  refine g_iloadN C X1 d22_12 13 rfl ?_
  refine g_iloadN C X1 d22_13 14 rfl ?_
  refine g_iloadN C X1 d22_14 15 rfl ?_
  refine g_iadd C X1 d22_15 16 ?_
  rw [show (1 : Int32) + 2 = 3 from by decide]
  refine g_callS C X1 (w_102 hw) (w_103 hw) (w_104 hw) (w_105 hw) d22_16 [(.ref o1), (.int 1), (.int 3)] [(.ref b1), (.ref b1)] 2 (rm23_4_1_3 hw Z1 f3) pd_12 e1 19 (fun u6 T6 L6 X6 hQ6 => ?_)
  obtain ⟨o36, kd36, rfl, Nq6, szo36, Kq6, q6_0⟩ := hQ6
  have N6 := Fr.app N0 Nq6
  have n7 : b1 ≠ o36 := Nat.ne_of_lt (Nat.lt_of_lt_of_le A1.lt szo36)
  have f10 := A1.keep Kq6
  have f11 := f4.keep Kq6 nin0
  have f12 := f5.keep Kq6 nin0
  have Z6 := Nat.le_trans Z1 Kq6.1
  have sz_o36 : h0.size ≤ o36 := Nat.le_trans K1.1 szo36
  have K6 := K1.trans Kq6 all0
  refine ret1 ?_
  refine g_iconst C X6 d22_19 20 (v := 0) rfl ?_
  refine g_callI C X6 rfl (w_119 hw) (w_120 hw) (w_8 hw) (w_121 hw) d22_20 [(.ref o36), (.int 0)] [(.ref b1)] 1 (rm27 hw Z6 f10 f11 f12 gn_b1) pd_13 rfl 23 (fun u13 T13 L13 X13 hQ13 => ?_)
  obtain ⟨rfl, Nq13, Kq13, q13_0, q13_1, q13_2⟩ := hQ13
  have N13 := Fr.app N6 Nq13
  have f16 := q6_0.keep Kq13 (ninS (Ne.symm n7) nin0)
  have K13 := K6.trans Kq13 (allS (Or.inr sz_b1) all0)
  refine ret0 ?_
  exact g_retA C X13 K rfl rfl rfl d22_23 (by decide) (by decide) rfl ⟨b1, o36, kd36, rfl, N13, sz_b1, sz_o36, K13, q13_0, q13_1, q13_2, f16⟩
def Q9_4_1_3 (Z : State) (o1 : Addr) (o2 : Addr) (kd1 : ClassId) (c1 : Int32) (c2 : Int32) (c3 : Int32) (c4 : Int32) (cs1 : Int32) (wf1 : Value) (h0 : Heap) (n0 : Nat) (v : Option Value) (h : Heap) (L : List Loc) : Prop := ∃ (o3 : Addr) (o4 : Addr) (kd3 : ClassId), v = some (.ref o3) ∧ Fr n0 L ∧ h0.size ≤ o3 ∧ h0.size ≤ o4 ∧ Keep h0 h [] ∧ OEs Z h o3 ∧ OFv Z h o3 (.ref o4) ∧ OFc Z h o3 ∧ Arv Z h o4 kd3 .byte 2 [(.int c2), (.int c3)] (.int 0)
theorem rm9_4_1_3 {o1 o2 : Addr} {kd1 : ClassId} {c1 c2 c3 c4 cs1 : Int32} {wf1 : Value} (hw : OwnW a0 Z) (Z0 : n0 ≤ h0.size) (F0 : OEs Z h0 o1) (F1 : OFv Z h0 o1 (.ref o2)) (F2 : OFc Z h0 o1) (F3 : Arv Z h0 o2 kd1 .byte 4 [(.int c1), (.int c2), (.int c3), (.int c4)] (.int 0)) (F4 : OSc Z h0 cs1) (F5 : OSf Z h0 wf1) (hcs : ¬ cs1 = (0 : Int32)) (hwf : wf1.isRef = true) : OwnMF l Z y9 jdk_42_method_92_code 5 (some (.object "java/lang/String")) ws ⟨4, 2, 6, 64⟩ #[(.ref o1), (.int 1), (.int 3)] h0 (Q9_4_1_3 Z o1 o2 kd1 c1 c2 c3 c4 cs1 wf1 h0 n0) := by
  refine bo (plainFor_of_name pn_2) ?_
  intro p e s m below meth c T0 G C hnm hnamed X0 e0 K
  have N0 := Fr.nil n0
  refine Goes.to (congrArg T0.setTop (ef_9rii m o1 (1 : Int32) (3 : Int32))) ?_
  have K00 := Keep.refl h0 []
  refine g_aloadN C X0 d9_0 1 rfl rfl ?_
  refine g_callV0 C X0 (b_6 hw) F0 d9_1 [] [] 0 (rm7_4 hw Z0 F0 F1 F2 F3 F4 hcs) N0 pd_6 e0 4 (fun T1 _ X1 N1 e1 => ?_)
  refine g_istoreN C X1 d9_4 5 (w := 4) rfl (ls' := #[rv o1, iv 1, iv 3, iv 4, uu]) rfl ?_
  refine g_iloadN C X1 d9_5 6 rfl ?_
  refine g_iloadN C X1 d9_6 7 rfl ?_
  refine g_iloadN C X1 d9_7 8 rfl ?_
  refine g_callSn C X1 (b_7 hw) d9_8 [(.int 1), (.int 3), (.int 4)] [] 0 (rm10 hw Z0 F5 hwf (by decide) (by decide) (by decide)) N1 pd_7 e1 11 (fun T2 _ X2 N2 e2 => ?_)
  refine g_iloadN C X2 d9_11 12 rfl ?_
  refine g_if_ne C X2 d9_12 22 15 (fun hc12 => ?_) (fun hc12 => absurd hc12 (by decide))
  refine g_iloadN C X2 d9_22 23 rfl ?_
  refine g_iloadN C X2 d9_23 24 rfl ?_
  refine g_isub C X2 d9_24 25 ?_
  rw [show (3 : Int32) - 1 = 2 from by decide]
  refine g_istore C X2 d9_25 27 (w := 2) rfl (ls' := #[rv o1, iv 1, iv 3, iv 4, iv 2]) rfl ?_
  refine g_aloadN C X2 d9_27 28 rfl rfl ?_
  refine g_callV0 C X2 (b_2 hw) F0 d9_28 [] [] 0 (rm17 hw Z0 F2 F4 hcs) N2 pd_2 e2 31 (fun T3 _ X3 N3 e3 => ?_)
  refine g_if_eq C X3 d9_31 47 34 (fun hc31 => absurd hc31 (by decide)) (fun hc31 => ?_)
  refine g_aloadN C X3 d9_34 35 rfl rfl ?_
  refine g_getF C X3 (w_25 hw) Via.refl e3 F1 d9_35 38 (fun T4 X4 e4 => ?_)
  refine g_iloadN C X4 d9_38 39 rfl ?_
  refine g_iload C X4 d9_39 41 rfl ?_
  refine g_callS C X4 (w_98 hw) (w_99 hw) (w_86 hw) (w_100 hw) d9_41 [(.ref o2), (.int 1), (.int 2)] [] 0 (rm22_4_1_2 hw Z0 F3) pd_14 e4 44 (fun u5 T5 L5 X5 hQ5 => ?_)
  obtain ⟨o35, o45, kd35, rfl, Nq5, szo35, szo45, Kq5, q5_0, q5_1, q5_2, q5_3⟩ := hQ5
  have N5 := Fr.app N3 Nq5
  have sz_o35 : h0.size ≤ o35 := Nat.le_trans K00.1 szo35
  have sz_o45 : h0.size ≤ o45 := Nat.le_trans K00.1 szo45
  have K5 := K00.trans Kq5 all0
  refine ret1 ?_
  refine g_goto C X5 d9_44 57 ?_
  exact g_retA C X5 K rfl rfl rfl d9_57 (by decide) (by decide) rfl ⟨o35, o45, kd35, rfl, N5, sz_o35, sz_o45, K5, q5_0, q5_1, q5_2, q5_3⟩
def Q6_4_1_3 (Z : State) (o1 : Addr) (o2 : Addr) (kd1 : ClassId) (c1 : Int32) (c2 : Int32) (c3 : Int32) (c4 : Int32) (cs1 : Int32) (wf1 : Value) (h0 : Heap) (n0 : Nat) (v : Option Value) (h : Heap) (L : List Loc) : Prop := ∃ (o3 : Addr) (o4 : Addr) (kd3 : ClassId), v = some (.ref o3) ∧ Fr n0 L ∧ h0.size ≤ o3 ∧ h0.size ≤ o4 ∧ Keep h0 h [] ∧ OEs Z h o3 ∧ OFv Z h o3 (.ref o4) ∧ OFc Z h o3 ∧ Arv Z h o4 kd3 .byte 2 [(.int c2), (.int c3)] (.int 0)
theorem rm6_4_1_3 {o1 o2 : Addr} {kd1 : ClassId} {c1 c2 c3 c4 cs1 : Int32} {wf1 : Value} (hw : OwnW a0 Z) (Z0 : n0 ≤ h0.size) (F0 : OEs Z h0 o1) (F1 : OFv Z h0 o1 (.ref o2)) (F2 : OFc Z h0 o1) (F3 : Arv Z h0 o2 kd1 .byte 4 [(.int c1), (.int c2), (.int c3), (.int c4)] (.int 0)) (F4 : OSc Z h0 cs1) (F5 : OSf Z h0 wf1) (hcs : ¬ cs1 = (0 : Int32)) (hwf : wf1.isRef = true) (hs1 : ¬ fIs (own_ch c1) = (0 : Int32)) (hs2 : fIs (own_ch c2) = (0 : Int32)) (hs3 : fIs (own_ch c3) = (0 : Int32)) (hs4 : ¬ fIs (own_ch c4) = (0 : Int32)) : OwnMF l Z y6 prog_35_method_2_code 3 (some (.object "java/lang/String")) ws ⟨5, 2, 6, 80⟩ #[(.ref o1)] h0 (Q6_4_1_3 Z o1 o2 kd1 c1 c2 c3 c4 cs1 wf1 h0 n0) := by
  refine bo (plainFor_of_name pn_6) ?_
  intro p e s m below meth c T0 G C hnm hnamed X0 e0 K
  have N0 := Fr.nil n0
  refine Goes.to (congrArg T0.setTop (ef_6r m o1)) ?_
  have K00 := Keep.refl h0 []
  refine g_iconst C X0 d6_0 1 (v := 0) rfl ?_
  refine g_istoreN C X0 d6_1 2 (w := 0) rfl (ls' := #[rv o1, iv 0, uu]) rfl ?_
  refine g_aloadN C X0 d6_2 3 rfl rfl ?_
  refine g_callV0 C X0 (b_8 hw) F0 d6_3 [] [] 0 (rm7_4 hw Z0 F0 F1 F2 F3 F4 hcs) N0 pd_6 e0 6 (fun T1 _ X1 N1 e1 => ?_)
  refine g_istoreN C X1 d6_6 7 (w := 4) rfl (ls' := #[rv o1, iv 0, iv 4]) rfl ?_
  refine g_iloadN C X1 d6_7 8 rfl ?_
  refine g_iloadN C X1 d6_8 9 rfl ?_
  refine g_icmp_ge C X1 d6_9 29 12 (fun hc9 => absurd hc9 (by decide)) (fun hc9 => ?_)
  refine g_aloadN C X1 d6_12 13 rfl rfl ?_
  refine g_iloadN C X1 d6_13 14 rfl ?_
  refine g_callV0 C X1 (b_10 hw) F0 d6_14 [(.int 0)] [] 0 (rm16_4_0 hw Z0 F0 F1 F2 F3 F4 F5 hcs hwf) N1 pd_9 e1 17 (fun T2 _ X2 N2 e2 => ?_)
  refine g_callS0 C X2 (b_11 hw) d6_17 [(.int (own_ch c1))] [] 0 (rm21 hw Z0) N2 pd_10 e2 20 (fun T3 _ X3 N3 e3 => ?_)
  refine g_if_eq C X3 d6_20 29 23 (fun hc20 => absurd hc20 hs1) (fun hc20 => ?_)
  refine g_iinc C X3 d6_23 26 rfl (w := 1) rfl (ls' := #[rv o1, iv 1, iv 4]) rfl ?_
  refine g_goto C X3 d6_26 7 ?_
  refine g_iloadN C X3 d6_7 8 rfl ?_
  refine g_iloadN C X3 d6_8 9 rfl ?_
  refine g_icmp_ge C X3 d6_9 29 12 (fun hc9 => absurd hc9 (by decide)) (fun hc9 => ?_)
  refine g_aloadN C X3 d6_12 13 rfl rfl ?_
  refine g_iloadN C X3 d6_13 14 rfl ?_
  refine g_callV0 C X3 (b_10 hw) F0 d6_14 [(.int 1)] [] 0 (rm16_4_1 hw Z0 F0 F1 F2 F3 F4 F5 hcs hwf) N3 pd_9 e3 17 (fun T4 _ X4 N4 e4 => ?_)
  refine g_callS0 C X4 (b_11 hw) d6_17 [(.int (own_ch c2))] [] 0 (rm21 hw Z0) N4 pd_10 e4 20 (fun T5 _ X5 N5 e5 => ?_)
  refine g_if_eq C X5 d6_20 29 23 (fun hc20 => ?_) (fun hc20 => absurd hs2 hc20)
  refine g_iloadN C X5 d6_29 30 rfl ?_
  refine g_iloadN C X5 d6_30 31 rfl ?_
  refine g_icmp_le C X5 d6_31 53 34 (fun hc31 => absurd hc31 (by decide)) (fun hc31 => ?_)
  refine g_aloadN C X5 d6_34 35 rfl rfl ?_
  refine g_iloadN C X5 d6_35 36 rfl ?_
  refine g_iconst C X5 d6_36 37 (v := 1) rfl ?_
  refine g_isub C X5 d6_37 38 ?_
  rw [show (4 : Int32) - 1 = 3 from by decide]
  refine g_callV0 C X5 (b_10 hw) F0 d6_38 [(.int 3)] [] 0 (rm16_4_3 hw Z0 F0 F1 F2 F3 F4 F5 hcs hwf) N5 pd_9 e5 41 (fun T6 _ X6 N6 e6 => ?_)
  refine g_callS0 C X6 (b_11 hw) d6_41 [(.int (own_ch c4))] [] 0 (rm21 hw Z0) N6 pd_10 e6 44 (fun T7 _ X7 N7 e7 => ?_)
  refine g_if_eq C X7 d6_44 53 47 (fun hc44 => absurd hc44 hs4) (fun hc44 => ?_)
  refine g_iinc C X7 d6_47 50 rfl (w := 3) rfl (ls' := #[rv o1, iv 1, iv 3]) rfl ?_
  refine g_goto C X7 d6_50 29 ?_
  refine g_iloadN C X7 d6_29 30 rfl ?_
  refine g_iloadN C X7 d6_30 31 rfl ?_
  refine g_icmp_le C X7 d6_31 53 34 (fun hc31 => absurd hc31 (by decide)) (fun hc31 => ?_)
  refine g_aloadN C X7 d6_34 35 rfl rfl ?_
  refine g_iloadN C X7 d6_35 36 rfl ?_
  refine g_iconst C X7 d6_36 37 (v := 1) rfl ?_
  refine g_isub C X7 d6_37 38 ?_
  rw [show (3 : Int32) - 1 = 2 from by decide]
  refine g_callV0 C X7 (b_10 hw) F0 d6_38 [(.int 2)] [] 0 (rm16_4_2 hw Z0 F0 F1 F2 F3 F4 F5 hcs hwf) N7 pd_9 e7 41 (fun T8 _ X8 N8 e8 => ?_)
  refine g_callS0 C X8 (b_11 hw) d6_41 [(.int (own_ch c3))] [] 0 (rm21 hw Z0) N8 pd_10 e8 44 (fun T9 _ X9 N9 e9 => ?_)
  refine g_if_eq C X9 d6_44 53 47 (fun hc44 => ?_) (fun hc44 => absurd hs3 hc44)
  refine g_aloadN C X9 d6_53 54 rfl rfl ?_
  refine g_iloadN C X9 d6_54 55 rfl ?_
  refine g_iloadN C X9 d6_55 56 rfl ?_
  refine g_callV C X9 (w_46 hw) (w_47 hw) (notFace_of_selects (args := #[]) (mvT C.2.1 (w_49 hw))) (w_49 hw) (w_48 hw) (w_50 hw) (w_8 hw) F0 d6_56 [(.int 1), (.int 3)] [] 0 (rm9_4_1_3 hw Z0 F0 F1 F2 F3 F4 F5 hcs hwf) pd_8 e9 59 (fun u10 T10 L10 X10 hQ10 => ?_)
  obtain ⟨o310, o410, kd310, rfl, Nq10, szo310, szo410, Kq10, q10_0, q10_1, q10_2, q10_3⟩ := hQ10
  have N10 := Fr.app N9 Nq10
  have sz_o310 : h0.size ≤ o310 := Nat.le_trans K00.1 szo310
  have sz_o410 : h0.size ≤ o410 := Nat.le_trans K00.1 szo410
  have K10 := K00.trans Kq10 all0
  refine ret1 ?_
  exact g_retA C X10 K rfl rfl rfl d6_59 (by decide) (by decide) rfl ⟨o310, o410, kd310, rfl, N10, sz_o310, sz_o410, K10, q10_0, q10_1, q10_2, q10_3⟩
theorem rm25_1_4  (hw : OwnW a0 Z) (Z0 : n0 ≤ h0.size) : OwnMF l Z y25 jdk_65_method_131_code 2 none ws ⟨0, 0, 0, 0⟩ #[(.int 1), (.int 4)] h0 (OwnQ none h0 n0) := by
  refine bo (plainFor_of_name pn_23) ?_
  intro p e s m below meth c T0 G C hnm hnamed X0 e0 K
  have N0 := Fr.nil n0
  refine Goes.to (congrArg T0.setTop (ef_25ii m (1 : Int32) (4 : Int32))) ?_
  refine g_iloadN C X0 d25_0 1 rfl ?_
  refine g_iloadN C X0 d25_1 2 rfl ?_
  refine g_icmp_ge C X0 d25_2 37 5 (fun hc2 => ?_) (fun hc2 => absurd hc2 (by decide))
  exact g_retV C X0 K d25_37 (by decide) (by decide) e0 ⟨rfl, N0, rfl⟩
def Q24_4_1_4 (Z : State) (o1 : Addr) (kd1 : ClassId) (c1 : Int32) (c2 : Int32) (c3 : Int32) (c4 : Int32) (h0 : Heap) (n0 : Nat) (v : Option Value) (h : Heap) (L : List Loc) : Prop := ∃ (o3 : Addr) (kd3 : ClassId), v = some (.ref o3) ∧ Fr n0 L ∧ h0.size ≤ o3 ∧ Keep h0 h [] ∧ Arv Z h o3 kd3 .byte 3 [(.int c2), (.int c3), (.int c4)] (.int 0)
theorem rm24_4_1_4 {o1 : Addr} {kd1 : ClassId} {c1 c2 c3 c4 : Int32} (hw : OwnW a0 Z) (Z0 : n0 ≤ h0.size) (F0 : Arv Z h0 o1 kd1 .byte 4 [(.int c1), (.int c2), (.int c3), (.int c4)] (.int 0)) : OwnMF l Z y24 jdk_65_method_133_code 5 (some (.array .byte)) ws ⟨1, 1, 3, 18⟩ #[(.ref o1), (.int 1), (.int 4)] h0 (Q24_4_1_4 Z o1 kd1 c1 c2 c3 c4 h0 n0) := by
  refine bo (plainFor_of_name pn_23) ?_
  intro p e s m below meth c T0 G C hnm hnamed X0 e0 K
  have N0 := Fr.nil n0
  refine Goes.to (congrArg T0.setTop (ef_24rii m o1 (1 : Int32) (4 : Int32))) ?_
  have K00 := Keep.refl h0 []
  refine g_iloadN C X0 d24_0 1 rfl ?_
  refine g_iloadN C X0 d24_1 2 rfl ?_
  refine g_callSn C X0 (b_12 hw) d24_2 [(.int 1), (.int 4)] [] 0 (rm25_1_4 hw Z0 ) N0 pd_1 e0 5 (fun T1 _ X1 N1 e1 => ?_)
  refine g_iloadN C X1 d24_5 6 rfl ?_
  refine g_iloadN C X1 d24_6 7 rfl ?_
  refine g_isub C X1 d24_7 8 ?_
  rw [show (4 : Int32) - 1 = 3 from by decide]
  refine g_istoreN C X1 d24_8 9 (w := 3) rfl (ls' := #[rv o1, iv 1, iv 4, iv 3, uu]) rfl ?_
  refine g_iloadN C X1 d24_9 10 rfl ?_
  refine g_newA (aty := .byte) (n := (3 : Int32)) C X1 (cap := 3) (w_20 hw) e1 d24_10 12 (by decide) (by decide) (by decide) (by decide) (by decide) (fun T2 h2 b2 ki2 X2 e2 g2 E2 A2 => ?_)
  have f4 := F0.ext E2
  have gn_b2 : n0 ≤ b2 := Nat.le_trans Z0 (Nat.le_of_eq g2.symm)
  have Z2 := Nat.le_trans Z0 E2.1
  have sz_b2 : h0.size ≤ b2 := Nat.le_trans K00.1 (Nat.le_of_eq g2.symm)
  have K2 := K00.ext E2
  have f5 : Arv Z h2 b2 ki2 .byte 3 [(.int 0), (.int 0), (.int 0)] (.int 0) := A2.pad (pad_rep [] (.int 0) 3)
  refine g_astore C X2 d24_12 14 rfl (ls' := #[rv o1, iv 1, iv 4, iv 3, rv b2]) rfl ?_
  refine g_aloadN C X2 d24_14 15 rfl rfl ?_
  refine g_iloadN C X2 d24_15 16 rfl ?_
  refine g_aload C X2 d24_16 18 rfl rfl ?_
  refine g_iconst C X2 d24_18 19 (v := 0) rfl ?_
  refine g_aloadN C X2 d24_19 20 rfl rfl ?_
  refine g_arraylength C X2 e2 f4 d24_20 21 ?_
  refine g_iloadN C X2 d24_21 22 rfl ?_
  refine g_isub C X2 d24_22 23 ?_
  rw [show (4 : Int32) - 1 = 3 from by decide]
  refine g_iloadN C X2 d24_23 24 rfl ?_
  refine g_callS0 C X2 (b_13 hw) d24_24 [(.int 3), (.int 3)] [(.int 0), (.ref b2), (.int 1), (.ref o1)] 4 (rm26 hw Z2) N1 pd_11 e2 27 (fun T6 _ X6 N6 e6 => ?_)
  rw [show fMin (3 : Int32) (3 : Int32) = (3 : Int32) from by decide]
  refine g_acopy C X6 (us := [(.int c2), (.int c3), (.int c4)]) (ur := [(.int c2), (.int c3), (.int c4)]) (w_115 hw) (w_118 hw) (w_116 hw) (w_117 hw) e6 f4 f5 rfl (by decide) (by decide) (by decide) (by decide) (by decide) rfl (by simp; try decide) rfl N6 gn_b2 rfl d24_27 30 (by decide) (W := 0) (Nat.le_of_eq rfl) (by decide) (fun T7 h7 L7 X7 e7 N7 Kq7 V7 => ?_)
  have K7 := K2.trans Kq7 (allS (Or.inr sz_b2) all0)
  refine g_aload C X7 d24_30 32 rfl rfl ?_
  exact g_retA C X7 K rfl rfl rfl d24_32 (by decide) (by decide) e7 ⟨b2, ki2, rfl, N7, sz_b2, K7, V7⟩
def Q23_4_1_4 (Z : State) (o1 : Addr) (kd1 : ClassId) (c1 : Int32) (c2 : Int32) (c3 : Int32) (c4 : Int32) (h0 : Heap) (n0 : Nat) (v : Option Value) (h : Heap) (L : List Loc) : Prop := ∃ (o3 : Addr) (kd3 : ClassId), v = some (.ref o3) ∧ Fr n0 L ∧ h0.size ≤ o3 ∧ Keep h0 h [] ∧ Arv Z h o3 kd3 .byte 3 [(.int c2), (.int c3), (.int c4)] (.int 0)
theorem rm23_4_1_4 {o1 : Addr} {kd1 : ClassId} {c1 c2 c3 c4 : Int32} (hw : OwnW a0 Z) (Z0 : n0 ≤ h0.size) (F0 : Arv Z h0 o1 kd1 .byte 4 [(.int c1), (.int c2), (.int c3), (.int c4)] (.int 0)) : OwnMF l Z y23 jdk_65_method_132_code 3 (some (.array .byte)) ws ⟨2, 1, 3, 34⟩ #[(.ref o1), (.int 1), (.int 4)] h0 (Q23_4_1_4 Z o1 kd1 c1 c2 c3 c4 h0 n0) := by
  refine bo (plainFor_of_name pn_23) ?_
  intro p e s m below meth c T0 G C hnm hnamed X0 e0 K
  have N0 := Fr.nil n0
  refine Goes.to (congrArg T0.setTop (ef_23rii m o1 (1 : Int32) (4 : Int32))) ?_
  have K00 := Keep.refl h0 []
  refine g_iloadN C X0 d23_0 1 rfl ?_
  refine g_if_ne C X0 d23_1 10 4 (fun hc1 => ?_) (fun hc1 => absurd hc1 (by decide))
  refine g_aloadN C X0 d23_10 11 rfl rfl ?_
  refine g_iloadN C X0 d23_11 12 rfl ?_
  refine g_iloadN C X0 d23_12 13 rfl ?_
  refine g_callS C X0 (w_106 hw) (w_107 hw) (w_104 hw) (w_108 hw) d23_13 [(.ref o1), (.int 1), (.int 4)] [] 0 (rm24_4_1_4 hw Z0 F0) pd_12 e0 16 (fun u1 T1 L1 X1 hQ1 => ?_)
  obtain ⟨o31, kd31, rfl, Nq1, szo31, Kq1, q1_0⟩ := hQ1
  have N1 := Fr.app N0 Nq1
  have sz_o31 : h0.size ≤ o31 := Nat.le_trans K00.1 szo31
  have K1 := K00.trans Kq1 all0
  refine ret1 ?_
  exact g_retA C X1 K rfl rfl rfl d23_16 (by decide) (by decide) rfl ⟨o31, kd31, rfl, N1, sz_o31, K1, q1_0⟩
def Q22_4_1_3 (Z : State) (o1 : Addr) (kd1 : ClassId) (c1 : Int32) (c2 : Int32) (c3 : Int32) (c4 : Int32) (h0 : Heap) (n0 : Nat) (v : Option Value) (h : Heap) (L : List Loc) : Prop := ∃ (o3 : Addr) (o4 : Addr) (kd3 : ClassId), v = some (.ref o3) ∧ Fr n0 L ∧ h0.size ≤ o3 ∧ h0.size ≤ o4 ∧ Keep h0 h [] ∧ OEs Z h o3 ∧ OFv Z h o3 (.ref o4) ∧ OFc Z h o3 ∧ Arv Z h o4 kd3 .byte 3 [(.int c2), (.int c3), (.int c4)] (.int 0)
theorem rm22_4_1_3 {o1 : Addr} {kd1 : ClassId} {c1 c2 c3 c4 : Int32} (hw : OwnW a0 Z) (Z0 : n0 ≤ h0.size) (F0 : Arv Z h0 o1 kd1 .byte 4 [(.int c1), (.int c2), (.int c3), (.int c4)] (.int 0)) : OwnMF l Z y22 jdk_43_method_47_code 3 (some (.object "java/lang/String")) ws ⟨3, 2, 7, 50⟩ #[(.ref o1), (.int 1), (.int 3)] h0 (Q22_4_1_3 Z o1 kd1 c1 c2 c3 c4 h0 n0) := by
  refine bo (plainFor_of_name pn_18) ?_
  intro p e s m below meth c T0 G C hnm hnamed X0 e0 K
  have N0 := Fr.nil n0
  refine Goes.to (congrArg T0.setTop (ef_22rii m o1 (1 : Int32) (3 : Int32))) ?_
  have K00 := Keep.refl h0 []
  refine g_iloadN C X0 d22_0 1 rfl ?_
  refine g_if_ne C X0 d22_1 7 4 (fun hc1 => ?_) (fun hc1 => absurd hc1 (by decide))
  refine g_new C X0 (w_101 hw) (w_7 hw) (w_8 hw) e0 d22_7 10 (by decide) (by decide) (fun T1 h1 b1 X1 e1 g1 E1 A1 D1 => ?_)
  have f3 := F0.ext E1
  have gn_b1 : n0 ≤ b1 := Nat.le_trans Z0 (Nat.le_of_eq g1.symm)
  have Z1 := Nat.le_trans Z0 E1.1
  have sz_b1 : h0.size ≤ b1 := Nat.le_trans K00.1 (Nat.le_of_eq g1.symm)
  have K1 := K00.ext E1
  have f4 : OFv Z h1 b1 .null := D1 (Or.inr (w_21 hw)) (ty := (.array .byte)) (by decide)
  have f5 : OFc Z h1 b1 := D1 (Or.inr (w_22 hw)) (ty := .byte) (by decide)
  refine g_dup C X1 d22_10 11 rfl ?_
  refine g_aloadN C X1 d22_11 12 rfl rfl ?_
  refine g_iloadN C X1 d22_12 13 rfl ?_
  refine g_iloadN C X1 d22_13 14 rfl ?_
  refine g_iloadN C X1 d22_14 15 rfl ?_
  refine g_iadd C X1 d22_15 16 ?_
  rw [show (1 : Int32) + 3 = 4 from by decide]
  refine g_callS C X1 (w_102 hw) (w_103 hw) (w_104 hw) (w_105 hw) d22_16 [(.ref o1), (.int 1), (.int 4)] [(.ref b1), (.ref b1)] 2 (rm23_4_1_4 hw Z1 f3) pd_12 e1 19 (fun u6 T6 L6 X6 hQ6 => ?_)
  obtain ⟨o36, kd36, rfl, Nq6, szo36, Kq6, q6_0⟩ := hQ6
  have N6 := Fr.app N0 Nq6
  have n7 : b1 ≠ o36 := Nat.ne_of_lt (Nat.lt_of_lt_of_le A1.lt szo36)
  have f10 := A1.keep Kq6
  have f11 := f4.keep Kq6 nin0
  have f12 := f5.keep Kq6 nin0
  have Z6 := Nat.le_trans Z1 Kq6.1
  have sz_o36 : h0.size ≤ o36 := Nat.le_trans K1.1 szo36
  have K6 := K1.trans Kq6 all0
  refine ret1 ?_
  refine g_iconst C X6 d22_19 20 (v := 0) rfl ?_
  refine g_callI C X6 rfl (w_119 hw) (w_120 hw) (w_8 hw) (w_121 hw) d22_20 [(.ref o36), (.int 0)] [(.ref b1)] 1 (rm27 hw Z6 f10 f11 f12 gn_b1) pd_13 rfl 23 (fun u13 T13 L13 X13 hQ13 => ?_)
  obtain ⟨rfl, Nq13, Kq13, q13_0, q13_1, q13_2⟩ := hQ13
  have N13 := Fr.app N6 Nq13
  have f16 := q6_0.keep Kq13 (ninS (Ne.symm n7) nin0)
  have K13 := K6.trans Kq13 (allS (Or.inr sz_b1) all0)
  refine ret0 ?_
  exact g_retA C X13 K rfl rfl rfl d22_23 (by decide) (by decide) rfl ⟨b1, o36, kd36, rfl, N13, sz_b1, sz_o36, K13, q13_0, q13_1, q13_2, f16⟩
def Q9_4_1_4 (Z : State) (o1 : Addr) (o2 : Addr) (kd1 : ClassId) (c1 : Int32) (c2 : Int32) (c3 : Int32) (c4 : Int32) (cs1 : Int32) (wf1 : Value) (h0 : Heap) (n0 : Nat) (v : Option Value) (h : Heap) (L : List Loc) : Prop := ∃ (o3 : Addr) (o4 : Addr) (kd3 : ClassId), v = some (.ref o3) ∧ Fr n0 L ∧ h0.size ≤ o3 ∧ h0.size ≤ o4 ∧ Keep h0 h [] ∧ OEs Z h o3 ∧ OFv Z h o3 (.ref o4) ∧ OFc Z h o3 ∧ Arv Z h o4 kd3 .byte 3 [(.int c2), (.int c3), (.int c4)] (.int 0)
theorem rm9_4_1_4 {o1 o2 : Addr} {kd1 : ClassId} {c1 c2 c3 c4 cs1 : Int32} {wf1 : Value} (hw : OwnW a0 Z) (Z0 : n0 ≤ h0.size) (F0 : OEs Z h0 o1) (F1 : OFv Z h0 o1 (.ref o2)) (F2 : OFc Z h0 o1) (F3 : Arv Z h0 o2 kd1 .byte 4 [(.int c1), (.int c2), (.int c3), (.int c4)] (.int 0)) (F4 : OSc Z h0 cs1) (F5 : OSf Z h0 wf1) (hcs : ¬ cs1 = (0 : Int32)) (hwf : wf1.isRef = true) : OwnMF l Z y9 jdk_42_method_92_code 5 (some (.object "java/lang/String")) ws ⟨4, 2, 7, 64⟩ #[(.ref o1), (.int 1), (.int 4)] h0 (Q9_4_1_4 Z o1 o2 kd1 c1 c2 c3 c4 cs1 wf1 h0 n0) := by
  refine bo (plainFor_of_name pn_2) ?_
  intro p e s m below meth c T0 G C hnm hnamed X0 e0 K
  have N0 := Fr.nil n0
  refine Goes.to (congrArg T0.setTop (ef_9rii m o1 (1 : Int32) (4 : Int32))) ?_
  have K00 := Keep.refl h0 []
  refine g_aloadN C X0 d9_0 1 rfl rfl ?_
  refine g_callV0 C X0 (b_6 hw) F0 d9_1 [] [] 0 (rm7_4 hw Z0 F0 F1 F2 F3 F4 hcs) N0 pd_6 e0 4 (fun T1 _ X1 N1 e1 => ?_)
  refine g_istoreN C X1 d9_4 5 (w := 4) rfl (ls' := #[rv o1, iv 1, iv 4, iv 4, uu]) rfl ?_
  refine g_iloadN C X1 d9_5 6 rfl ?_
  refine g_iloadN C X1 d9_6 7 rfl ?_
  refine g_iloadN C X1 d9_7 8 rfl ?_
  refine g_callSn C X1 (b_7 hw) d9_8 [(.int 1), (.int 4), (.int 4)] [] 0 (rm10 hw Z0 F5 hwf (by decide) (by decide) (by decide)) N1 pd_7 e1 11 (fun T2 _ X2 N2 e2 => ?_)
  refine g_iloadN C X2 d9_11 12 rfl ?_
  refine g_if_ne C X2 d9_12 22 15 (fun hc12 => ?_) (fun hc12 => absurd hc12 (by decide))
  refine g_iloadN C X2 d9_22 23 rfl ?_
  refine g_iloadN C X2 d9_23 24 rfl ?_
  refine g_isub C X2 d9_24 25 ?_
  rw [show (4 : Int32) - 1 = 3 from by decide]
  refine g_istore C X2 d9_25 27 (w := 3) rfl (ls' := #[rv o1, iv 1, iv 4, iv 4, iv 3]) rfl ?_
  refine g_aloadN C X2 d9_27 28 rfl rfl ?_
  refine g_callV0 C X2 (b_2 hw) F0 d9_28 [] [] 0 (rm17 hw Z0 F2 F4 hcs) N2 pd_2 e2 31 (fun T3 _ X3 N3 e3 => ?_)
  refine g_if_eq C X3 d9_31 47 34 (fun hc31 => absurd hc31 (by decide)) (fun hc31 => ?_)
  refine g_aloadN C X3 d9_34 35 rfl rfl ?_
  refine g_getF C X3 (w_25 hw) Via.refl e3 F1 d9_35 38 (fun T4 X4 e4 => ?_)
  refine g_iloadN C X4 d9_38 39 rfl ?_
  refine g_iload C X4 d9_39 41 rfl ?_
  refine g_callS C X4 (w_98 hw) (w_99 hw) (w_86 hw) (w_100 hw) d9_41 [(.ref o2), (.int 1), (.int 3)] [] 0 (rm22_4_1_3 hw Z0 F3) pd_14 e4 44 (fun u5 T5 L5 X5 hQ5 => ?_)
  obtain ⟨o35, o45, kd35, rfl, Nq5, szo35, szo45, Kq5, q5_0, q5_1, q5_2, q5_3⟩ := hQ5
  have N5 := Fr.app N3 Nq5
  have sz_o35 : h0.size ≤ o35 := Nat.le_trans K00.1 szo35
  have sz_o45 : h0.size ≤ o45 := Nat.le_trans K00.1 szo45
  have K5 := K00.trans Kq5 all0
  refine ret1 ?_
  refine g_goto C X5 d9_44 57 ?_
  exact g_retA C X5 K rfl rfl rfl d9_57 (by decide) (by decide) rfl ⟨o35, o45, kd35, rfl, N5, sz_o35, sz_o45, K5, q5_0, q5_1, q5_2, q5_3⟩
def Q6_4_1_4 (Z : State) (o1 : Addr) (o2 : Addr) (kd1 : ClassId) (c1 : Int32) (c2 : Int32) (c3 : Int32) (c4 : Int32) (cs1 : Int32) (wf1 : Value) (h0 : Heap) (n0 : Nat) (v : Option Value) (h : Heap) (L : List Loc) : Prop := ∃ (o3 : Addr) (o4 : Addr) (kd3 : ClassId), v = some (.ref o3) ∧ Fr n0 L ∧ h0.size ≤ o3 ∧ h0.size ≤ o4 ∧ Keep h0 h [] ∧ OEs Z h o3 ∧ OFv Z h o3 (.ref o4) ∧ OFc Z h o3 ∧ Arv Z h o4 kd3 .byte 3 [(.int c2), (.int c3), (.int c4)] (.int 0)
theorem rm6_4_1_4 {o1 o2 : Addr} {kd1 : ClassId} {c1 c2 c3 c4 cs1 : Int32} {wf1 : Value} (hw : OwnW a0 Z) (Z0 : n0 ≤ h0.size) (F0 : OEs Z h0 o1) (F1 : OFv Z h0 o1 (.ref o2)) (F2 : OFc Z h0 o1) (F3 : Arv Z h0 o2 kd1 .byte 4 [(.int c1), (.int c2), (.int c3), (.int c4)] (.int 0)) (F4 : OSc Z h0 cs1) (F5 : OSf Z h0 wf1) (hcs : ¬ cs1 = (0 : Int32)) (hwf : wf1.isRef = true) (hs1 : ¬ fIs (own_ch c1) = (0 : Int32)) (hs2 : fIs (own_ch c2) = (0 : Int32)) (hs4 : fIs (own_ch c4) = (0 : Int32)) : OwnMF l Z y6 prog_35_method_2_code 3 (some (.object "java/lang/String")) ws ⟨5, 2, 7, 80⟩ #[(.ref o1)] h0 (Q6_4_1_4 Z o1 o2 kd1 c1 c2 c3 c4 cs1 wf1 h0 n0) := by
  refine bo (plainFor_of_name pn_6) ?_
  intro p e s m below meth c T0 G C hnm hnamed X0 e0 K
  have N0 := Fr.nil n0
  refine Goes.to (congrArg T0.setTop (ef_6r m o1)) ?_
  have K00 := Keep.refl h0 []
  refine g_iconst C X0 d6_0 1 (v := 0) rfl ?_
  refine g_istoreN C X0 d6_1 2 (w := 0) rfl (ls' := #[rv o1, iv 0, uu]) rfl ?_
  refine g_aloadN C X0 d6_2 3 rfl rfl ?_
  refine g_callV0 C X0 (b_8 hw) F0 d6_3 [] [] 0 (rm7_4 hw Z0 F0 F1 F2 F3 F4 hcs) N0 pd_6 e0 6 (fun T1 _ X1 N1 e1 => ?_)
  refine g_istoreN C X1 d6_6 7 (w := 4) rfl (ls' := #[rv o1, iv 0, iv 4]) rfl ?_
  refine g_iloadN C X1 d6_7 8 rfl ?_
  refine g_iloadN C X1 d6_8 9 rfl ?_
  refine g_icmp_ge C X1 d6_9 29 12 (fun hc9 => absurd hc9 (by decide)) (fun hc9 => ?_)
  refine g_aloadN C X1 d6_12 13 rfl rfl ?_
  refine g_iloadN C X1 d6_13 14 rfl ?_
  refine g_callV0 C X1 (b_10 hw) F0 d6_14 [(.int 0)] [] 0 (rm16_4_0 hw Z0 F0 F1 F2 F3 F4 F5 hcs hwf) N1 pd_9 e1 17 (fun T2 _ X2 N2 e2 => ?_)
  refine g_callS0 C X2 (b_11 hw) d6_17 [(.int (own_ch c1))] [] 0 (rm21 hw Z0) N2 pd_10 e2 20 (fun T3 _ X3 N3 e3 => ?_)
  refine g_if_eq C X3 d6_20 29 23 (fun hc20 => absurd hc20 hs1) (fun hc20 => ?_)
  refine g_iinc C X3 d6_23 26 rfl (w := 1) rfl (ls' := #[rv o1, iv 1, iv 4]) rfl ?_
  refine g_goto C X3 d6_26 7 ?_
  refine g_iloadN C X3 d6_7 8 rfl ?_
  refine g_iloadN C X3 d6_8 9 rfl ?_
  refine g_icmp_ge C X3 d6_9 29 12 (fun hc9 => absurd hc9 (by decide)) (fun hc9 => ?_)
  refine g_aloadN C X3 d6_12 13 rfl rfl ?_
  refine g_iloadN C X3 d6_13 14 rfl ?_
  refine g_callV0 C X3 (b_10 hw) F0 d6_14 [(.int 1)] [] 0 (rm16_4_1 hw Z0 F0 F1 F2 F3 F4 F5 hcs hwf) N3 pd_9 e3 17 (fun T4 _ X4 N4 e4 => ?_)
  refine g_callS0 C X4 (b_11 hw) d6_17 [(.int (own_ch c2))] [] 0 (rm21 hw Z0) N4 pd_10 e4 20 (fun T5 _ X5 N5 e5 => ?_)
  refine g_if_eq C X5 d6_20 29 23 (fun hc20 => ?_) (fun hc20 => absurd hs2 hc20)
  refine g_iloadN C X5 d6_29 30 rfl ?_
  refine g_iloadN C X5 d6_30 31 rfl ?_
  refine g_icmp_le C X5 d6_31 53 34 (fun hc31 => absurd hc31 (by decide)) (fun hc31 => ?_)
  refine g_aloadN C X5 d6_34 35 rfl rfl ?_
  refine g_iloadN C X5 d6_35 36 rfl ?_
  refine g_iconst C X5 d6_36 37 (v := 1) rfl ?_
  refine g_isub C X5 d6_37 38 ?_
  rw [show (4 : Int32) - 1 = 3 from by decide]
  refine g_callV0 C X5 (b_10 hw) F0 d6_38 [(.int 3)] [] 0 (rm16_4_3 hw Z0 F0 F1 F2 F3 F4 F5 hcs hwf) N5 pd_9 e5 41 (fun T6 _ X6 N6 e6 => ?_)
  refine g_callS0 C X6 (b_11 hw) d6_41 [(.int (own_ch c4))] [] 0 (rm21 hw Z0) N6 pd_10 e6 44 (fun T7 _ X7 N7 e7 => ?_)
  refine g_if_eq C X7 d6_44 53 47 (fun hc44 => ?_) (fun hc44 => absurd hs4 hc44)
  refine g_aloadN C X7 d6_53 54 rfl rfl ?_
  refine g_iloadN C X7 d6_54 55 rfl ?_
  refine g_iloadN C X7 d6_55 56 rfl ?_
  refine g_callV C X7 (w_46 hw) (w_47 hw) (notFace_of_selects (args := #[]) (mvT C.2.1 (w_49 hw))) (w_49 hw) (w_48 hw) (w_50 hw) (w_8 hw) F0 d6_56 [(.int 1), (.int 4)] [] 0 (rm9_4_1_4 hw Z0 F0 F1 F2 F3 F4 F5 hcs hwf) pd_8 e7 59 (fun u8 T8 L8 X8 hQ8 => ?_)
  obtain ⟨o38, o48, kd38, rfl, Nq8, szo38, szo48, Kq8, q8_0, q8_1, q8_2, q8_3⟩ := hQ8
  have N8 := Fr.app N7 Nq8
  have sz_o38 : h0.size ≤ o38 := Nat.le_trans K00.1 szo38
  have sz_o48 : h0.size ≤ o48 := Nat.le_trans K00.1 szo48
  have K8 := K00.trans Kq8 all0
  refine ret1 ?_
  exact g_retA C X8 K rfl rfl rfl d6_59 (by decide) (by decide) rfl ⟨o38, o48, kd38, rfl, N8, sz_o38, sz_o48, K8, q8_0, q8_1, q8_2, q8_3⟩
def Q24_4_2_3 (Z : State) (o1 : Addr) (kd1 : ClassId) (c1 : Int32) (c2 : Int32) (c3 : Int32) (c4 : Int32) (h0 : Heap) (n0 : Nat) (v : Option Value) (h : Heap) (L : List Loc) : Prop := ∃ (o3 : Addr) (kd3 : ClassId), v = some (.ref o3) ∧ Fr n0 L ∧ h0.size ≤ o3 ∧ Keep h0 h [] ∧ Arv Z h o3 kd3 .byte 1 [(.int c3)] (.int 0)
theorem rm24_4_2_3 {o1 : Addr} {kd1 : ClassId} {c1 c2 c3 c4 : Int32} (hw : OwnW a0 Z) (Z0 : n0 ≤ h0.size) (F0 : Arv Z h0 o1 kd1 .byte 4 [(.int c1), (.int c2), (.int c3), (.int c4)] (.int 0)) : OwnMF l Z y24 jdk_65_method_133_code 5 (some (.array .byte)) ws ⟨1, 1, 1, 18⟩ #[(.ref o1), (.int 2), (.int 3)] h0 (Q24_4_2_3 Z o1 kd1 c1 c2 c3 c4 h0 n0) := by
  refine bo (plainFor_of_name pn_23) ?_
  intro p e s m below meth c T0 G C hnm hnamed X0 e0 K
  have N0 := Fr.nil n0
  refine Goes.to (congrArg T0.setTop (ef_24rii m o1 (2 : Int32) (3 : Int32))) ?_
  have K00 := Keep.refl h0 []
  refine g_iloadN C X0 d24_0 1 rfl ?_
  refine g_iloadN C X0 d24_1 2 rfl ?_
  refine g_callSn C X0 (b_12 hw) d24_2 [(.int 2), (.int 3)] [] 0 (rm25_2_3 hw Z0 ) N0 pd_1 e0 5 (fun T1 _ X1 N1 e1 => ?_)
  refine g_iloadN C X1 d24_5 6 rfl ?_
  refine g_iloadN C X1 d24_6 7 rfl ?_
  refine g_isub C X1 d24_7 8 ?_
  rw [show (3 : Int32) - 2 = 1 from by decide]
  refine g_istoreN C X1 d24_8 9 (w := 1) rfl (ls' := #[rv o1, iv 2, iv 3, iv 1, uu]) rfl ?_
  refine g_iloadN C X1 d24_9 10 rfl ?_
  refine g_newA (aty := .byte) (n := (1 : Int32)) C X1 (cap := 1) (w_20 hw) e1 d24_10 12 (by decide) (by decide) (by decide) (by decide) (by decide) (fun T2 h2 b2 ki2 X2 e2 g2 E2 A2 => ?_)
  have f4 := F0.ext E2
  have gn_b2 : n0 ≤ b2 := Nat.le_trans Z0 (Nat.le_of_eq g2.symm)
  have Z2 := Nat.le_trans Z0 E2.1
  have sz_b2 : h0.size ≤ b2 := Nat.le_trans K00.1 (Nat.le_of_eq g2.symm)
  have K2 := K00.ext E2
  have f5 : Arv Z h2 b2 ki2 .byte 1 [(.int 0)] (.int 0) := A2.pad (pad_rep [] (.int 0) 1)
  refine g_astore C X2 d24_12 14 rfl (ls' := #[rv o1, iv 2, iv 3, iv 1, rv b2]) rfl ?_
  refine g_aloadN C X2 d24_14 15 rfl rfl ?_
  refine g_iloadN C X2 d24_15 16 rfl ?_
  refine g_aload C X2 d24_16 18 rfl rfl ?_
  refine g_iconst C X2 d24_18 19 (v := 0) rfl ?_
  refine g_aloadN C X2 d24_19 20 rfl rfl ?_
  refine g_arraylength C X2 e2 f4 d24_20 21 ?_
  refine g_iloadN C X2 d24_21 22 rfl ?_
  refine g_isub C X2 d24_22 23 ?_
  rw [show (4 : Int32) - 2 = 2 from by decide]
  refine g_iloadN C X2 d24_23 24 rfl ?_
  refine g_callS0 C X2 (b_13 hw) d24_24 [(.int 2), (.int 1)] [(.int 0), (.ref b2), (.int 2), (.ref o1)] 4 (rm26 hw Z2) N1 pd_11 e2 27 (fun T6 _ X6 N6 e6 => ?_)
  rw [show fMin (2 : Int32) (1 : Int32) = (1 : Int32) from by decide]
  refine g_acopy C X6 (us := [(.int c3)]) (ur := [(.int c3)]) (w_115 hw) (w_118 hw) (w_116 hw) (w_117 hw) e6 f4 f5 rfl (by decide) (by decide) (by decide) (by decide) (by decide) rfl (by simp; try decide) rfl N6 gn_b2 rfl d24_27 30 (by decide) (W := 0) (Nat.le_of_eq rfl) (by decide) (fun T7 h7 L7 X7 e7 N7 Kq7 V7 => ?_)
  have K7 := K2.trans Kq7 (allS (Or.inr sz_b2) all0)
  refine g_aload C X7 d24_30 32 rfl rfl ?_
  exact g_retA C X7 K rfl rfl rfl d24_32 (by decide) (by decide) e7 ⟨b2, ki2, rfl, N7, sz_b2, K7, V7⟩
def Q23_4_2_3 (Z : State) (o1 : Addr) (kd1 : ClassId) (c1 : Int32) (c2 : Int32) (c3 : Int32) (c4 : Int32) (h0 : Heap) (n0 : Nat) (v : Option Value) (h : Heap) (L : List Loc) : Prop := ∃ (o3 : Addr) (kd3 : ClassId), v = some (.ref o3) ∧ Fr n0 L ∧ h0.size ≤ o3 ∧ Keep h0 h [] ∧ Arv Z h o3 kd3 .byte 1 [(.int c3)] (.int 0)
theorem rm23_4_2_3 {o1 : Addr} {kd1 : ClassId} {c1 c2 c3 c4 : Int32} (hw : OwnW a0 Z) (Z0 : n0 ≤ h0.size) (F0 : Arv Z h0 o1 kd1 .byte 4 [(.int c1), (.int c2), (.int c3), (.int c4)] (.int 0)) : OwnMF l Z y23 jdk_65_method_132_code 3 (some (.array .byte)) ws ⟨2, 1, 1, 34⟩ #[(.ref o1), (.int 2), (.int 3)] h0 (Q23_4_2_3 Z o1 kd1 c1 c2 c3 c4 h0 n0) := by
  refine bo (plainFor_of_name pn_23) ?_
  intro p e s m below meth c T0 G C hnm hnamed X0 e0 K
  have N0 := Fr.nil n0
  refine Goes.to (congrArg T0.setTop (ef_23rii m o1 (2 : Int32) (3 : Int32))) ?_
  have K00 := Keep.refl h0 []
  refine g_iloadN C X0 d23_0 1 rfl ?_
  refine g_if_ne C X0 d23_1 10 4 (fun hc1 => ?_) (fun hc1 => absurd hc1 (by decide))
  refine g_aloadN C X0 d23_10 11 rfl rfl ?_
  refine g_iloadN C X0 d23_11 12 rfl ?_
  refine g_iloadN C X0 d23_12 13 rfl ?_
  refine g_callS C X0 (w_106 hw) (w_107 hw) (w_104 hw) (w_108 hw) d23_13 [(.ref o1), (.int 2), (.int 3)] [] 0 (rm24_4_2_3 hw Z0 F0) pd_12 e0 16 (fun u1 T1 L1 X1 hQ1 => ?_)
  obtain ⟨o31, kd31, rfl, Nq1, szo31, Kq1, q1_0⟩ := hQ1
  have N1 := Fr.app N0 Nq1
  have sz_o31 : h0.size ≤ o31 := Nat.le_trans K00.1 szo31
  have K1 := K00.trans Kq1 all0
  refine ret1 ?_
  exact g_retA C X1 K rfl rfl rfl d23_16 (by decide) (by decide) rfl ⟨o31, kd31, rfl, N1, sz_o31, K1, q1_0⟩
def Q22_4_2_1 (Z : State) (o1 : Addr) (kd1 : ClassId) (c1 : Int32) (c2 : Int32) (c3 : Int32) (c4 : Int32) (h0 : Heap) (n0 : Nat) (v : Option Value) (h : Heap) (L : List Loc) : Prop := ∃ (o3 : Addr) (o4 : Addr) (kd3 : ClassId), v = some (.ref o3) ∧ Fr n0 L ∧ h0.size ≤ o3 ∧ h0.size ≤ o4 ∧ Keep h0 h [] ∧ OEs Z h o3 ∧ OFv Z h o3 (.ref o4) ∧ OFc Z h o3 ∧ Arv Z h o4 kd3 .byte 1 [(.int c3)] (.int 0)
theorem rm22_4_2_1 {o1 : Addr} {kd1 : ClassId} {c1 c2 c3 c4 : Int32} (hw : OwnW a0 Z) (Z0 : n0 ≤ h0.size) (F0 : Arv Z h0 o1 kd1 .byte 4 [(.int c1), (.int c2), (.int c3), (.int c4)] (.int 0)) : OwnMF l Z y22 jdk_43_method_47_code 3 (some (.object "java/lang/String")) ws ⟨3, 2, 5, 50⟩ #[(.ref o1), (.int 2), (.int 1)] h0 (Q22_4_2_1 Z o1 kd1 c1 c2 c3 c4 h0 n0) := by
  refine bo (plainFor_of_name pn_18) ?_
  intro p e s m below meth c T0 G C hnm hnamed X0 e0 K
  have N0 := Fr.nil n0
  refine Goes.to (congrArg T0.setTop (ef_22rii m o1 (2 : Int32) (1 : Int32))) ?_
  have K00 := Keep.refl h0 []
  refine g_iloadN C X0 d22_0 1 rfl ?_
  refine g_if_ne C X0 d22_1 7 4 (fun hc1 => ?_) (fun hc1 => absurd hc1 (by decide))
  refine g_new C X0 (w_101 hw) (w_7 hw) (w_8 hw) e0 d22_7 10 (by decide) (by decide) (fun T1 h1 b1 X1 e1 g1 E1 A1 D1 => ?_)
  have f3 := F0.ext E1
  have gn_b1 : n0 ≤ b1 := Nat.le_trans Z0 (Nat.le_of_eq g1.symm)
  have Z1 := Nat.le_trans Z0 E1.1
  have sz_b1 : h0.size ≤ b1 := Nat.le_trans K00.1 (Nat.le_of_eq g1.symm)
  have K1 := K00.ext E1
  have f4 : OFv Z h1 b1 .null := D1 (Or.inr (w_21 hw)) (ty := (.array .byte)) (by decide)
  have f5 : OFc Z h1 b1 := D1 (Or.inr (w_22 hw)) (ty := .byte) (by decide)
  refine g_dup C X1 d22_10 11 rfl ?_
  refine g_aloadN C X1 d22_11 12 rfl rfl ?_
  refine g_iloadN C X1 d22_12 13 rfl ?_
  refine g_iloadN C X1 d22_13 14 rfl ?_
  refine g_iloadN C X1 d22_14 15 rfl ?_
  refine g_iadd C X1 d22_15 16 ?_
  rw [show (2 : Int32) + 1 = 3 from by decide]
  refine g_callS C X1 (w_102 hw) (w_103 hw) (w_104 hw) (w_105 hw) d22_16 [(.ref o1), (.int 2), (.int 3)] [(.ref b1), (.ref b1)] 2 (rm23_4_2_3 hw Z1 f3) pd_12 e1 19 (fun u6 T6 L6 X6 hQ6 => ?_)
  obtain ⟨o36, kd36, rfl, Nq6, szo36, Kq6, q6_0⟩ := hQ6
  have N6 := Fr.app N0 Nq6
  have n7 : b1 ≠ o36 := Nat.ne_of_lt (Nat.lt_of_lt_of_le A1.lt szo36)
  have f10 := A1.keep Kq6
  have f11 := f4.keep Kq6 nin0
  have f12 := f5.keep Kq6 nin0
  have Z6 := Nat.le_trans Z1 Kq6.1
  have sz_o36 : h0.size ≤ o36 := Nat.le_trans K1.1 szo36
  have K6 := K1.trans Kq6 all0
  refine ret1 ?_
  refine g_iconst C X6 d22_19 20 (v := 0) rfl ?_
  refine g_callI C X6 rfl (w_119 hw) (w_120 hw) (w_8 hw) (w_121 hw) d22_20 [(.ref o36), (.int 0)] [(.ref b1)] 1 (rm27 hw Z6 f10 f11 f12 gn_b1) pd_13 rfl 23 (fun u13 T13 L13 X13 hQ13 => ?_)
  obtain ⟨rfl, Nq13, Kq13, q13_0, q13_1, q13_2⟩ := hQ13
  have N13 := Fr.app N6 Nq13
  have f16 := q6_0.keep Kq13 (ninS (Ne.symm n7) nin0)
  have K13 := K6.trans Kq13 (allS (Or.inr sz_b1) all0)
  refine ret0 ?_
  exact g_retA C X13 K rfl rfl rfl d22_23 (by decide) (by decide) rfl ⟨b1, o36, kd36, rfl, N13, sz_b1, sz_o36, K13, q13_0, q13_1, q13_2, f16⟩
def Q9_4_2_3 (Z : State) (o1 : Addr) (o2 : Addr) (kd1 : ClassId) (c1 : Int32) (c2 : Int32) (c3 : Int32) (c4 : Int32) (cs1 : Int32) (wf1 : Value) (h0 : Heap) (n0 : Nat) (v : Option Value) (h : Heap) (L : List Loc) : Prop := ∃ (o3 : Addr) (o4 : Addr) (kd3 : ClassId), v = some (.ref o3) ∧ Fr n0 L ∧ h0.size ≤ o3 ∧ h0.size ≤ o4 ∧ Keep h0 h [] ∧ OEs Z h o3 ∧ OFv Z h o3 (.ref o4) ∧ OFc Z h o3 ∧ Arv Z h o4 kd3 .byte 1 [(.int c3)] (.int 0)
theorem rm9_4_2_3 {o1 o2 : Addr} {kd1 : ClassId} {c1 c2 c3 c4 cs1 : Int32} {wf1 : Value} (hw : OwnW a0 Z) (Z0 : n0 ≤ h0.size) (F0 : OEs Z h0 o1) (F1 : OFv Z h0 o1 (.ref o2)) (F2 : OFc Z h0 o1) (F3 : Arv Z h0 o2 kd1 .byte 4 [(.int c1), (.int c2), (.int c3), (.int c4)] (.int 0)) (F4 : OSc Z h0 cs1) (F5 : OSf Z h0 wf1) (hcs : ¬ cs1 = (0 : Int32)) (hwf : wf1.isRef = true) : OwnMF l Z y9 jdk_42_method_92_code 5 (some (.object "java/lang/String")) ws ⟨4, 2, 5, 64⟩ #[(.ref o1), (.int 2), (.int 3)] h0 (Q9_4_2_3 Z o1 o2 kd1 c1 c2 c3 c4 cs1 wf1 h0 n0) := by
  refine bo (plainFor_of_name pn_2) ?_
  intro p e s m below meth c T0 G C hnm hnamed X0 e0 K
  have N0 := Fr.nil n0
  refine Goes.to (congrArg T0.setTop (ef_9rii m o1 (2 : Int32) (3 : Int32))) ?_
  have K00 := Keep.refl h0 []
  refine g_aloadN C X0 d9_0 1 rfl rfl ?_
  refine g_callV0 C X0 (b_6 hw) F0 d9_1 [] [] 0 (rm7_4 hw Z0 F0 F1 F2 F3 F4 hcs) N0 pd_6 e0 4 (fun T1 _ X1 N1 e1 => ?_)
  refine g_istoreN C X1 d9_4 5 (w := 4) rfl (ls' := #[rv o1, iv 2, iv 3, iv 4, uu]) rfl ?_
  refine g_iloadN C X1 d9_5 6 rfl ?_
  refine g_iloadN C X1 d9_6 7 rfl ?_
  refine g_iloadN C X1 d9_7 8 rfl ?_
  refine g_callSn C X1 (b_7 hw) d9_8 [(.int 2), (.int 3), (.int 4)] [] 0 (rm10 hw Z0 F5 hwf (by decide) (by decide) (by decide)) N1 pd_7 e1 11 (fun T2 _ X2 N2 e2 => ?_)
  refine g_iloadN C X2 d9_11 12 rfl ?_
  refine g_if_ne C X2 d9_12 22 15 (fun hc12 => ?_) (fun hc12 => absurd hc12 (by decide))
  refine g_iloadN C X2 d9_22 23 rfl ?_
  refine g_iloadN C X2 d9_23 24 rfl ?_
  refine g_isub C X2 d9_24 25 ?_
  rw [show (3 : Int32) - 2 = 1 from by decide]
  refine g_istore C X2 d9_25 27 (w := 1) rfl (ls' := #[rv o1, iv 2, iv 3, iv 4, iv 1]) rfl ?_
  refine g_aloadN C X2 d9_27 28 rfl rfl ?_
  refine g_callV0 C X2 (b_2 hw) F0 d9_28 [] [] 0 (rm17 hw Z0 F2 F4 hcs) N2 pd_2 e2 31 (fun T3 _ X3 N3 e3 => ?_)
  refine g_if_eq C X3 d9_31 47 34 (fun hc31 => absurd hc31 (by decide)) (fun hc31 => ?_)
  refine g_aloadN C X3 d9_34 35 rfl rfl ?_
  refine g_getF C X3 (w_25 hw) Via.refl e3 F1 d9_35 38 (fun T4 X4 e4 => ?_)
  refine g_iloadN C X4 d9_38 39 rfl ?_
  refine g_iload C X4 d9_39 41 rfl ?_
  refine g_callS C X4 (w_98 hw) (w_99 hw) (w_86 hw) (w_100 hw) d9_41 [(.ref o2), (.int 2), (.int 1)] [] 0 (rm22_4_2_1 hw Z0 F3) pd_14 e4 44 (fun u5 T5 L5 X5 hQ5 => ?_)
  obtain ⟨o35, o45, kd35, rfl, Nq5, szo35, szo45, Kq5, q5_0, q5_1, q5_2, q5_3⟩ := hQ5
  have N5 := Fr.app N3 Nq5
  have sz_o35 : h0.size ≤ o35 := Nat.le_trans K00.1 szo35
  have sz_o45 : h0.size ≤ o45 := Nat.le_trans K00.1 szo45
  have K5 := K00.trans Kq5 all0
  refine ret1 ?_
  refine g_goto C X5 d9_44 57 ?_
  exact g_retA C X5 K rfl rfl rfl d9_57 (by decide) (by decide) rfl ⟨o35, o45, kd35, rfl, N5, sz_o35, sz_o45, K5, q5_0, q5_1, q5_2, q5_3⟩
def Q6_4_2_3 (Z : State) (o1 : Addr) (o2 : Addr) (kd1 : ClassId) (c1 : Int32) (c2 : Int32) (c3 : Int32) (c4 : Int32) (cs1 : Int32) (wf1 : Value) (h0 : Heap) (n0 : Nat) (v : Option Value) (h : Heap) (L : List Loc) : Prop := ∃ (o3 : Addr) (o4 : Addr) (kd3 : ClassId), v = some (.ref o3) ∧ Fr n0 L ∧ h0.size ≤ o3 ∧ h0.size ≤ o4 ∧ Keep h0 h [] ∧ OEs Z h o3 ∧ OFv Z h o3 (.ref o4) ∧ OFc Z h o3 ∧ Arv Z h o4 kd3 .byte 1 [(.int c3)] (.int 0)
theorem rm6_4_2_3 {o1 o2 : Addr} {kd1 : ClassId} {c1 c2 c3 c4 cs1 : Int32} {wf1 : Value} (hw : OwnW a0 Z) (Z0 : n0 ≤ h0.size) (F0 : OEs Z h0 o1) (F1 : OFv Z h0 o1 (.ref o2)) (F2 : OFc Z h0 o1) (F3 : Arv Z h0 o2 kd1 .byte 4 [(.int c1), (.int c2), (.int c3), (.int c4)] (.int 0)) (F4 : OSc Z h0 cs1) (F5 : OSf Z h0 wf1) (hcs : ¬ cs1 = (0 : Int32)) (hwf : wf1.isRef = true) (hs1 : ¬ fIs (own_ch c1) = (0 : Int32)) (hs2 : ¬ fIs (own_ch c2) = (0 : Int32)) (hs3 : fIs (own_ch c3) = (0 : Int32)) (hs4 : ¬ fIs (own_ch c4) = (0 : Int32)) : OwnMF l Z y6 prog_35_method_2_code 3 (some (.object "java/lang/String")) ws ⟨5, 2, 5, 80⟩ #[(.ref o1)] h0 (Q6_4_2_3 Z o1 o2 kd1 c1 c2 c3 c4 cs1 wf1 h0 n0) := by
  refine bo (plainFor_of_name pn_6) ?_
  intro p e s m below meth c T0 G C hnm hnamed X0 e0 K
  have N0 := Fr.nil n0
  refine Goes.to (congrArg T0.setTop (ef_6r m o1)) ?_
  have K00 := Keep.refl h0 []
  refine g_iconst C X0 d6_0 1 (v := 0) rfl ?_
  refine g_istoreN C X0 d6_1 2 (w := 0) rfl (ls' := #[rv o1, iv 0, uu]) rfl ?_
  refine g_aloadN C X0 d6_2 3 rfl rfl ?_
  refine g_callV0 C X0 (b_8 hw) F0 d6_3 [] [] 0 (rm7_4 hw Z0 F0 F1 F2 F3 F4 hcs) N0 pd_6 e0 6 (fun T1 _ X1 N1 e1 => ?_)
  refine g_istoreN C X1 d6_6 7 (w := 4) rfl (ls' := #[rv o1, iv 0, iv 4]) rfl ?_
  refine g_iloadN C X1 d6_7 8 rfl ?_
  refine g_iloadN C X1 d6_8 9 rfl ?_
  refine g_icmp_ge C X1 d6_9 29 12 (fun hc9 => absurd hc9 (by decide)) (fun hc9 => ?_)
  refine g_aloadN C X1 d6_12 13 rfl rfl ?_
  refine g_iloadN C X1 d6_13 14 rfl ?_
  refine g_callV0 C X1 (b_10 hw) F0 d6_14 [(.int 0)] [] 0 (rm16_4_0 hw Z0 F0 F1 F2 F3 F4 F5 hcs hwf) N1 pd_9 e1 17 (fun T2 _ X2 N2 e2 => ?_)
  refine g_callS0 C X2 (b_11 hw) d6_17 [(.int (own_ch c1))] [] 0 (rm21 hw Z0) N2 pd_10 e2 20 (fun T3 _ X3 N3 e3 => ?_)
  refine g_if_eq C X3 d6_20 29 23 (fun hc20 => absurd hc20 hs1) (fun hc20 => ?_)
  refine g_iinc C X3 d6_23 26 rfl (w := 1) rfl (ls' := #[rv o1, iv 1, iv 4]) rfl ?_
  refine g_goto C X3 d6_26 7 ?_
  refine g_iloadN C X3 d6_7 8 rfl ?_
  refine g_iloadN C X3 d6_8 9 rfl ?_
  refine g_icmp_ge C X3 d6_9 29 12 (fun hc9 => absurd hc9 (by decide)) (fun hc9 => ?_)
  refine g_aloadN C X3 d6_12 13 rfl rfl ?_
  refine g_iloadN C X3 d6_13 14 rfl ?_
  refine g_callV0 C X3 (b_10 hw) F0 d6_14 [(.int 1)] [] 0 (rm16_4_1 hw Z0 F0 F1 F2 F3 F4 F5 hcs hwf) N3 pd_9 e3 17 (fun T4 _ X4 N4 e4 => ?_)
  refine g_callS0 C X4 (b_11 hw) d6_17 [(.int (own_ch c2))] [] 0 (rm21 hw Z0) N4 pd_10 e4 20 (fun T5 _ X5 N5 e5 => ?_)
  refine g_if_eq C X5 d6_20 29 23 (fun hc20 => absurd hc20 hs2) (fun hc20 => ?_)
  refine g_iinc C X5 d6_23 26 rfl (w := 2) rfl (ls' := #[rv o1, iv 2, iv 4]) rfl ?_
  refine g_goto C X5 d6_26 7 ?_
  refine g_iloadN C X5 d6_7 8 rfl ?_
  refine g_iloadN C X5 d6_8 9 rfl ?_
  refine g_icmp_ge C X5 d6_9 29 12 (fun hc9 => absurd hc9 (by decide)) (fun hc9 => ?_)
  refine g_aloadN C X5 d6_12 13 rfl rfl ?_
  refine g_iloadN C X5 d6_13 14 rfl ?_
  refine g_callV0 C X5 (b_10 hw) F0 d6_14 [(.int 2)] [] 0 (rm16_4_2 hw Z0 F0 F1 F2 F3 F4 F5 hcs hwf) N5 pd_9 e5 17 (fun T6 _ X6 N6 e6 => ?_)
  refine g_callS0 C X6 (b_11 hw) d6_17 [(.int (own_ch c3))] [] 0 (rm21 hw Z0) N6 pd_10 e6 20 (fun T7 _ X7 N7 e7 => ?_)
  refine g_if_eq C X7 d6_20 29 23 (fun hc20 => ?_) (fun hc20 => absurd hs3 hc20)
  refine g_iloadN C X7 d6_29 30 rfl ?_
  refine g_iloadN C X7 d6_30 31 rfl ?_
  refine g_icmp_le C X7 d6_31 53 34 (fun hc31 => absurd hc31 (by decide)) (fun hc31 => ?_)
  refine g_aloadN C X7 d6_34 35 rfl rfl ?_
  refine g_iloadN C X7 d6_35 36 rfl ?_
  refine g_iconst C X7 d6_36 37 (v := 1) rfl ?_
  refine g_isub C X7 d6_37 38 ?_
  rw [show (4 : Int32) - 1 = 3 from by decide]
  refine g_callV0 C X7 (b_10 hw) F0 d6_38 [(.int 3)] [] 0 (rm16_4_3 hw Z0 F0 F1 F2 F3 F4 F5 hcs hwf) N7 pd_9 e7 41 (fun T8 _ X8 N8 e8 => ?_)
  refine g_callS0 C X8 (b_11 hw) d6_41 [(.int (own_ch c4))] [] 0 (rm21 hw Z0) N8 pd_10 e8 44 (fun T9 _ X9 N9 e9 => ?_)
  refine g_if_eq C X9 d6_44 53 47 (fun hc44 => absurd hc44 hs4) (fun hc44 => ?_)
  refine g_iinc C X9 d6_47 50 rfl (w := 3) rfl (ls' := #[rv o1, iv 2, iv 3]) rfl ?_
  refine g_goto C X9 d6_50 29 ?_
  refine g_iloadN C X9 d6_29 30 rfl ?_
  refine g_iloadN C X9 d6_30 31 rfl ?_
  refine g_icmp_le C X9 d6_31 53 34 (fun hc31 => absurd hc31 (by decide)) (fun hc31 => ?_)
  refine g_aloadN C X9 d6_34 35 rfl rfl ?_
  refine g_iloadN C X9 d6_35 36 rfl ?_
  refine g_iconst C X9 d6_36 37 (v := 1) rfl ?_
  refine g_isub C X9 d6_37 38 ?_
  rw [show (3 : Int32) - 1 = 2 from by decide]
  refine g_callV0 C X9 (b_10 hw) F0 d6_38 [(.int 2)] [] 0 (rm16_4_2 hw Z0 F0 F1 F2 F3 F4 F5 hcs hwf) N9 pd_9 e9 41 (fun T10 _ X10 N10 e10 => ?_)
  refine g_callS0 C X10 (b_11 hw) d6_41 [(.int (own_ch c3))] [] 0 (rm21 hw Z0) N10 pd_10 e10 44 (fun T11 _ X11 N11 e11 => ?_)
  refine g_if_eq C X11 d6_44 53 47 (fun hc44 => ?_) (fun hc44 => absurd hc20 hc44)
  refine g_aloadN C X11 d6_53 54 rfl rfl ?_
  refine g_iloadN C X11 d6_54 55 rfl ?_
  refine g_iloadN C X11 d6_55 56 rfl ?_
  refine g_callV C X11 (w_46 hw) (w_47 hw) (notFace_of_selects (args := #[]) (mvT C.2.1 (w_49 hw))) (w_49 hw) (w_48 hw) (w_50 hw) (w_8 hw) F0 d6_56 [(.int 2), (.int 3)] [] 0 (rm9_4_2_3 hw Z0 F0 F1 F2 F3 F4 F5 hcs hwf) pd_8 e11 59 (fun u12 T12 L12 X12 hQ12 => ?_)
  obtain ⟨o312, o412, kd312, rfl, Nq12, szo312, szo412, Kq12, q12_0, q12_1, q12_2, q12_3⟩ := hQ12
  have N12 := Fr.app N11 Nq12
  have sz_o312 : h0.size ≤ o312 := Nat.le_trans K00.1 szo312
  have sz_o412 : h0.size ≤ o412 := Nat.le_trans K00.1 szo412
  have K12 := K00.trans Kq12 all0
  refine ret1 ?_
  exact g_retA C X12 K rfl rfl rfl d6_59 (by decide) (by decide) rfl ⟨o312, o412, kd312, rfl, N12, sz_o312, sz_o412, K12, q12_0, q12_1, q12_2, q12_3⟩
theorem rm25_2_4  (hw : OwnW a0 Z) (Z0 : n0 ≤ h0.size) : OwnMF l Z y25 jdk_65_method_131_code 2 none ws ⟨0, 0, 0, 0⟩ #[(.int 2), (.int 4)] h0 (OwnQ none h0 n0) := by
  refine bo (plainFor_of_name pn_23) ?_
  intro p e s m below meth c T0 G C hnm hnamed X0 e0 K
  have N0 := Fr.nil n0
  refine Goes.to (congrArg T0.setTop (ef_25ii m (2 : Int32) (4 : Int32))) ?_
  refine g_iloadN C X0 d25_0 1 rfl ?_
  refine g_iloadN C X0 d25_1 2 rfl ?_
  refine g_icmp_ge C X0 d25_2 37 5 (fun hc2 => ?_) (fun hc2 => absurd hc2 (by decide))
  exact g_retV C X0 K d25_37 (by decide) (by decide) e0 ⟨rfl, N0, rfl⟩
def Q24_4_2_4 (Z : State) (o1 : Addr) (kd1 : ClassId) (c1 : Int32) (c2 : Int32) (c3 : Int32) (c4 : Int32) (h0 : Heap) (n0 : Nat) (v : Option Value) (h : Heap) (L : List Loc) : Prop := ∃ (o3 : Addr) (kd3 : ClassId), v = some (.ref o3) ∧ Fr n0 L ∧ h0.size ≤ o3 ∧ Keep h0 h [] ∧ Arv Z h o3 kd3 .byte 2 [(.int c3), (.int c4)] (.int 0)
theorem rm24_4_2_4 {o1 : Addr} {kd1 : ClassId} {c1 c2 c3 c4 : Int32} (hw : OwnW a0 Z) (Z0 : n0 ≤ h0.size) (F0 : Arv Z h0 o1 kd1 .byte 4 [(.int c1), (.int c2), (.int c3), (.int c4)] (.int 0)) : OwnMF l Z y24 jdk_65_method_133_code 5 (some (.array .byte)) ws ⟨1, 1, 2, 18⟩ #[(.ref o1), (.int 2), (.int 4)] h0 (Q24_4_2_4 Z o1 kd1 c1 c2 c3 c4 h0 n0) := by
  refine bo (plainFor_of_name pn_23) ?_
  intro p e s m below meth c T0 G C hnm hnamed X0 e0 K
  have N0 := Fr.nil n0
  refine Goes.to (congrArg T0.setTop (ef_24rii m o1 (2 : Int32) (4 : Int32))) ?_
  have K00 := Keep.refl h0 []
  refine g_iloadN C X0 d24_0 1 rfl ?_
  refine g_iloadN C X0 d24_1 2 rfl ?_
  refine g_callSn C X0 (b_12 hw) d24_2 [(.int 2), (.int 4)] [] 0 (rm25_2_4 hw Z0 ) N0 pd_1 e0 5 (fun T1 _ X1 N1 e1 => ?_)
  refine g_iloadN C X1 d24_5 6 rfl ?_
  refine g_iloadN C X1 d24_6 7 rfl ?_
  refine g_isub C X1 d24_7 8 ?_
  rw [show (4 : Int32) - 2 = 2 from by decide]
  refine g_istoreN C X1 d24_8 9 (w := 2) rfl (ls' := #[rv o1, iv 2, iv 4, iv 2, uu]) rfl ?_
  refine g_iloadN C X1 d24_9 10 rfl ?_
  refine g_newA (aty := .byte) (n := (2 : Int32)) C X1 (cap := 2) (w_20 hw) e1 d24_10 12 (by decide) (by decide) (by decide) (by decide) (by decide) (fun T2 h2 b2 ki2 X2 e2 g2 E2 A2 => ?_)
  have f4 := F0.ext E2
  have gn_b2 : n0 ≤ b2 := Nat.le_trans Z0 (Nat.le_of_eq g2.symm)
  have Z2 := Nat.le_trans Z0 E2.1
  have sz_b2 : h0.size ≤ b2 := Nat.le_trans K00.1 (Nat.le_of_eq g2.symm)
  have K2 := K00.ext E2
  have f5 : Arv Z h2 b2 ki2 .byte 2 [(.int 0), (.int 0)] (.int 0) := A2.pad (pad_rep [] (.int 0) 2)
  refine g_astore C X2 d24_12 14 rfl (ls' := #[rv o1, iv 2, iv 4, iv 2, rv b2]) rfl ?_
  refine g_aloadN C X2 d24_14 15 rfl rfl ?_
  refine g_iloadN C X2 d24_15 16 rfl ?_
  refine g_aload C X2 d24_16 18 rfl rfl ?_
  refine g_iconst C X2 d24_18 19 (v := 0) rfl ?_
  refine g_aloadN C X2 d24_19 20 rfl rfl ?_
  refine g_arraylength C X2 e2 f4 d24_20 21 ?_
  refine g_iloadN C X2 d24_21 22 rfl ?_
  refine g_isub C X2 d24_22 23 ?_
  rw [show (4 : Int32) - 2 = 2 from by decide]
  refine g_iloadN C X2 d24_23 24 rfl ?_
  refine g_callS0 C X2 (b_13 hw) d24_24 [(.int 2), (.int 2)] [(.int 0), (.ref b2), (.int 2), (.ref o1)] 4 (rm26 hw Z2) N1 pd_11 e2 27 (fun T6 _ X6 N6 e6 => ?_)
  rw [show fMin (2 : Int32) (2 : Int32) = (2 : Int32) from by decide]
  refine g_acopy C X6 (us := [(.int c3), (.int c4)]) (ur := [(.int c3), (.int c4)]) (w_115 hw) (w_118 hw) (w_116 hw) (w_117 hw) e6 f4 f5 rfl (by decide) (by decide) (by decide) (by decide) (by decide) rfl (by simp; try decide) rfl N6 gn_b2 rfl d24_27 30 (by decide) (W := 0) (Nat.le_of_eq rfl) (by decide) (fun T7 h7 L7 X7 e7 N7 Kq7 V7 => ?_)
  have K7 := K2.trans Kq7 (allS (Or.inr sz_b2) all0)
  refine g_aload C X7 d24_30 32 rfl rfl ?_
  exact g_retA C X7 K rfl rfl rfl d24_32 (by decide) (by decide) e7 ⟨b2, ki2, rfl, N7, sz_b2, K7, V7⟩
def Q23_4_2_4 (Z : State) (o1 : Addr) (kd1 : ClassId) (c1 : Int32) (c2 : Int32) (c3 : Int32) (c4 : Int32) (h0 : Heap) (n0 : Nat) (v : Option Value) (h : Heap) (L : List Loc) : Prop := ∃ (o3 : Addr) (kd3 : ClassId), v = some (.ref o3) ∧ Fr n0 L ∧ h0.size ≤ o3 ∧ Keep h0 h [] ∧ Arv Z h o3 kd3 .byte 2 [(.int c3), (.int c4)] (.int 0)
theorem rm23_4_2_4 {o1 : Addr} {kd1 : ClassId} {c1 c2 c3 c4 : Int32} (hw : OwnW a0 Z) (Z0 : n0 ≤ h0.size) (F0 : Arv Z h0 o1 kd1 .byte 4 [(.int c1), (.int c2), (.int c3), (.int c4)] (.int 0)) : OwnMF l Z y23 jdk_65_method_132_code 3 (some (.array .byte)) ws ⟨2, 1, 2, 34⟩ #[(.ref o1), (.int 2), (.int 4)] h0 (Q23_4_2_4 Z o1 kd1 c1 c2 c3 c4 h0 n0) := by
  refine bo (plainFor_of_name pn_23) ?_
  intro p e s m below meth c T0 G C hnm hnamed X0 e0 K
  have N0 := Fr.nil n0
  refine Goes.to (congrArg T0.setTop (ef_23rii m o1 (2 : Int32) (4 : Int32))) ?_
  have K00 := Keep.refl h0 []
  refine g_iloadN C X0 d23_0 1 rfl ?_
  refine g_if_ne C X0 d23_1 10 4 (fun hc1 => ?_) (fun hc1 => absurd hc1 (by decide))
  refine g_aloadN C X0 d23_10 11 rfl rfl ?_
  refine g_iloadN C X0 d23_11 12 rfl ?_
  refine g_iloadN C X0 d23_12 13 rfl ?_
  refine g_callS C X0 (w_106 hw) (w_107 hw) (w_104 hw) (w_108 hw) d23_13 [(.ref o1), (.int 2), (.int 4)] [] 0 (rm24_4_2_4 hw Z0 F0) pd_12 e0 16 (fun u1 T1 L1 X1 hQ1 => ?_)
  obtain ⟨o31, kd31, rfl, Nq1, szo31, Kq1, q1_0⟩ := hQ1
  have N1 := Fr.app N0 Nq1
  have sz_o31 : h0.size ≤ o31 := Nat.le_trans K00.1 szo31
  have K1 := K00.trans Kq1 all0
  refine ret1 ?_
  exact g_retA C X1 K rfl rfl rfl d23_16 (by decide) (by decide) rfl ⟨o31, kd31, rfl, N1, sz_o31, K1, q1_0⟩
def Q22_4_2_2 (Z : State) (o1 : Addr) (kd1 : ClassId) (c1 : Int32) (c2 : Int32) (c3 : Int32) (c4 : Int32) (h0 : Heap) (n0 : Nat) (v : Option Value) (h : Heap) (L : List Loc) : Prop := ∃ (o3 : Addr) (o4 : Addr) (kd3 : ClassId), v = some (.ref o3) ∧ Fr n0 L ∧ h0.size ≤ o3 ∧ h0.size ≤ o4 ∧ Keep h0 h [] ∧ OEs Z h o3 ∧ OFv Z h o3 (.ref o4) ∧ OFc Z h o3 ∧ Arv Z h o4 kd3 .byte 2 [(.int c3), (.int c4)] (.int 0)
theorem rm22_4_2_2 {o1 : Addr} {kd1 : ClassId} {c1 c2 c3 c4 : Int32} (hw : OwnW a0 Z) (Z0 : n0 ≤ h0.size) (F0 : Arv Z h0 o1 kd1 .byte 4 [(.int c1), (.int c2), (.int c3), (.int c4)] (.int 0)) : OwnMF l Z y22 jdk_43_method_47_code 3 (some (.object "java/lang/String")) ws ⟨3, 2, 6, 50⟩ #[(.ref o1), (.int 2), (.int 2)] h0 (Q22_4_2_2 Z o1 kd1 c1 c2 c3 c4 h0 n0) := by
  refine bo (plainFor_of_name pn_18) ?_
  intro p e s m below meth c T0 G C hnm hnamed X0 e0 K
  have N0 := Fr.nil n0
  refine Goes.to (congrArg T0.setTop (ef_22rii m o1 (2 : Int32) (2 : Int32))) ?_
  have K00 := Keep.refl h0 []
  refine g_iloadN C X0 d22_0 1 rfl ?_
  refine g_if_ne C X0 d22_1 7 4 (fun hc1 => ?_) (fun hc1 => absurd hc1 (by decide))
  refine g_new C X0 (w_101 hw) (w_7 hw) (w_8 hw) e0 d22_7 10 (by decide) (by decide) (fun T1 h1 b1 X1 e1 g1 E1 A1 D1 => ?_)
  have f3 := F0.ext E1
  have gn_b1 : n0 ≤ b1 := Nat.le_trans Z0 (Nat.le_of_eq g1.symm)
  have Z1 := Nat.le_trans Z0 E1.1
  have sz_b1 : h0.size ≤ b1 := Nat.le_trans K00.1 (Nat.le_of_eq g1.symm)
  have K1 := K00.ext E1
  have f4 : OFv Z h1 b1 .null := D1 (Or.inr (w_21 hw)) (ty := (.array .byte)) (by decide)
  have f5 : OFc Z h1 b1 := D1 (Or.inr (w_22 hw)) (ty := .byte) (by decide)
  refine g_dup C X1 d22_10 11 rfl ?_
  refine g_aloadN C X1 d22_11 12 rfl rfl ?_
  refine g_iloadN C X1 d22_12 13 rfl ?_
  refine g_iloadN C X1 d22_13 14 rfl ?_
  refine g_iloadN C X1 d22_14 15 rfl ?_
  refine g_iadd C X1 d22_15 16 ?_
  rw [show (2 : Int32) + 2 = 4 from by decide]
  refine g_callS C X1 (w_102 hw) (w_103 hw) (w_104 hw) (w_105 hw) d22_16 [(.ref o1), (.int 2), (.int 4)] [(.ref b1), (.ref b1)] 2 (rm23_4_2_4 hw Z1 f3) pd_12 e1 19 (fun u6 T6 L6 X6 hQ6 => ?_)
  obtain ⟨o36, kd36, rfl, Nq6, szo36, Kq6, q6_0⟩ := hQ6
  have N6 := Fr.app N0 Nq6
  have n7 : b1 ≠ o36 := Nat.ne_of_lt (Nat.lt_of_lt_of_le A1.lt szo36)
  have f10 := A1.keep Kq6
  have f11 := f4.keep Kq6 nin0
  have f12 := f5.keep Kq6 nin0
  have Z6 := Nat.le_trans Z1 Kq6.1
  have sz_o36 : h0.size ≤ o36 := Nat.le_trans K1.1 szo36
  have K6 := K1.trans Kq6 all0
  refine ret1 ?_
  refine g_iconst C X6 d22_19 20 (v := 0) rfl ?_
  refine g_callI C X6 rfl (w_119 hw) (w_120 hw) (w_8 hw) (w_121 hw) d22_20 [(.ref o36), (.int 0)] [(.ref b1)] 1 (rm27 hw Z6 f10 f11 f12 gn_b1) pd_13 rfl 23 (fun u13 T13 L13 X13 hQ13 => ?_)
  obtain ⟨rfl, Nq13, Kq13, q13_0, q13_1, q13_2⟩ := hQ13
  have N13 := Fr.app N6 Nq13
  have f16 := q6_0.keep Kq13 (ninS (Ne.symm n7) nin0)
  have K13 := K6.trans Kq13 (allS (Or.inr sz_b1) all0)
  refine ret0 ?_
  exact g_retA C X13 K rfl rfl rfl d22_23 (by decide) (by decide) rfl ⟨b1, o36, kd36, rfl, N13, sz_b1, sz_o36, K13, q13_0, q13_1, q13_2, f16⟩
def Q9_4_2_4 (Z : State) (o1 : Addr) (o2 : Addr) (kd1 : ClassId) (c1 : Int32) (c2 : Int32) (c3 : Int32) (c4 : Int32) (cs1 : Int32) (wf1 : Value) (h0 : Heap) (n0 : Nat) (v : Option Value) (h : Heap) (L : List Loc) : Prop := ∃ (o3 : Addr) (o4 : Addr) (kd3 : ClassId), v = some (.ref o3) ∧ Fr n0 L ∧ h0.size ≤ o3 ∧ h0.size ≤ o4 ∧ Keep h0 h [] ∧ OEs Z h o3 ∧ OFv Z h o3 (.ref o4) ∧ OFc Z h o3 ∧ Arv Z h o4 kd3 .byte 2 [(.int c3), (.int c4)] (.int 0)
theorem rm9_4_2_4 {o1 o2 : Addr} {kd1 : ClassId} {c1 c2 c3 c4 cs1 : Int32} {wf1 : Value} (hw : OwnW a0 Z) (Z0 : n0 ≤ h0.size) (F0 : OEs Z h0 o1) (F1 : OFv Z h0 o1 (.ref o2)) (F2 : OFc Z h0 o1) (F3 : Arv Z h0 o2 kd1 .byte 4 [(.int c1), (.int c2), (.int c3), (.int c4)] (.int 0)) (F4 : OSc Z h0 cs1) (F5 : OSf Z h0 wf1) (hcs : ¬ cs1 = (0 : Int32)) (hwf : wf1.isRef = true) : OwnMF l Z y9 jdk_42_method_92_code 5 (some (.object "java/lang/String")) ws ⟨4, 2, 6, 64⟩ #[(.ref o1), (.int 2), (.int 4)] h0 (Q9_4_2_4 Z o1 o2 kd1 c1 c2 c3 c4 cs1 wf1 h0 n0) := by
  refine bo (plainFor_of_name pn_2) ?_
  intro p e s m below meth c T0 G C hnm hnamed X0 e0 K
  have N0 := Fr.nil n0
  refine Goes.to (congrArg T0.setTop (ef_9rii m o1 (2 : Int32) (4 : Int32))) ?_
  have K00 := Keep.refl h0 []
  refine g_aloadN C X0 d9_0 1 rfl rfl ?_
  refine g_callV0 C X0 (b_6 hw) F0 d9_1 [] [] 0 (rm7_4 hw Z0 F0 F1 F2 F3 F4 hcs) N0 pd_6 e0 4 (fun T1 _ X1 N1 e1 => ?_)
  refine g_istoreN C X1 d9_4 5 (w := 4) rfl (ls' := #[rv o1, iv 2, iv 4, iv 4, uu]) rfl ?_
  refine g_iloadN C X1 d9_5 6 rfl ?_
  refine g_iloadN C X1 d9_6 7 rfl ?_
  refine g_iloadN C X1 d9_7 8 rfl ?_
  refine g_callSn C X1 (b_7 hw) d9_8 [(.int 2), (.int 4), (.int 4)] [] 0 (rm10 hw Z0 F5 hwf (by decide) (by decide) (by decide)) N1 pd_7 e1 11 (fun T2 _ X2 N2 e2 => ?_)
  refine g_iloadN C X2 d9_11 12 rfl ?_
  refine g_if_ne C X2 d9_12 22 15 (fun hc12 => ?_) (fun hc12 => absurd hc12 (by decide))
  refine g_iloadN C X2 d9_22 23 rfl ?_
  refine g_iloadN C X2 d9_23 24 rfl ?_
  refine g_isub C X2 d9_24 25 ?_
  rw [show (4 : Int32) - 2 = 2 from by decide]
  refine g_istore C X2 d9_25 27 (w := 2) rfl (ls' := #[rv o1, iv 2, iv 4, iv 4, iv 2]) rfl ?_
  refine g_aloadN C X2 d9_27 28 rfl rfl ?_
  refine g_callV0 C X2 (b_2 hw) F0 d9_28 [] [] 0 (rm17 hw Z0 F2 F4 hcs) N2 pd_2 e2 31 (fun T3 _ X3 N3 e3 => ?_)
  refine g_if_eq C X3 d9_31 47 34 (fun hc31 => absurd hc31 (by decide)) (fun hc31 => ?_)
  refine g_aloadN C X3 d9_34 35 rfl rfl ?_
  refine g_getF C X3 (w_25 hw) Via.refl e3 F1 d9_35 38 (fun T4 X4 e4 => ?_)
  refine g_iloadN C X4 d9_38 39 rfl ?_
  refine g_iload C X4 d9_39 41 rfl ?_
  refine g_callS C X4 (w_98 hw) (w_99 hw) (w_86 hw) (w_100 hw) d9_41 [(.ref o2), (.int 2), (.int 2)] [] 0 (rm22_4_2_2 hw Z0 F3) pd_14 e4 44 (fun u5 T5 L5 X5 hQ5 => ?_)
  obtain ⟨o35, o45, kd35, rfl, Nq5, szo35, szo45, Kq5, q5_0, q5_1, q5_2, q5_3⟩ := hQ5
  have N5 := Fr.app N3 Nq5
  have sz_o35 : h0.size ≤ o35 := Nat.le_trans K00.1 szo35
  have sz_o45 : h0.size ≤ o45 := Nat.le_trans K00.1 szo45
  have K5 := K00.trans Kq5 all0
  refine ret1 ?_
  refine g_goto C X5 d9_44 57 ?_
  exact g_retA C X5 K rfl rfl rfl d9_57 (by decide) (by decide) rfl ⟨o35, o45, kd35, rfl, N5, sz_o35, sz_o45, K5, q5_0, q5_1, q5_2, q5_3⟩
def Q6_4_2_4 (Z : State) (o1 : Addr) (o2 : Addr) (kd1 : ClassId) (c1 : Int32) (c2 : Int32) (c3 : Int32) (c4 : Int32) (cs1 : Int32) (wf1 : Value) (h0 : Heap) (n0 : Nat) (v : Option Value) (h : Heap) (L : List Loc) : Prop := ∃ (o3 : Addr) (o4 : Addr) (kd3 : ClassId), v = some (.ref o3) ∧ Fr n0 L ∧ h0.size ≤ o3 ∧ h0.size ≤ o4 ∧ Keep h0 h [] ∧ OEs Z h o3 ∧ OFv Z h o3 (.ref o4) ∧ OFc Z h o3 ∧ Arv Z h o4 kd3 .byte 2 [(.int c3), (.int c4)] (.int 0)
theorem rm6_4_2_4 {o1 o2 : Addr} {kd1 : ClassId} {c1 c2 c3 c4 cs1 : Int32} {wf1 : Value} (hw : OwnW a0 Z) (Z0 : n0 ≤ h0.size) (F0 : OEs Z h0 o1) (F1 : OFv Z h0 o1 (.ref o2)) (F2 : OFc Z h0 o1) (F3 : Arv Z h0 o2 kd1 .byte 4 [(.int c1), (.int c2), (.int c3), (.int c4)] (.int 0)) (F4 : OSc Z h0 cs1) (F5 : OSf Z h0 wf1) (hcs : ¬ cs1 = (0 : Int32)) (hwf : wf1.isRef = true) (hs1 : ¬ fIs (own_ch c1) = (0 : Int32)) (hs2 : ¬ fIs (own_ch c2) = (0 : Int32)) (hs3 : fIs (own_ch c3) = (0 : Int32)) (hs4 : fIs (own_ch c4) = (0 : Int32)) : OwnMF l Z y6 prog_35_method_2_code 3 (some (.object "java/lang/String")) ws ⟨5, 2, 6, 80⟩ #[(.ref o1)] h0 (Q6_4_2_4 Z o1 o2 kd1 c1 c2 c3 c4 cs1 wf1 h0 n0) := by
  refine bo (plainFor_of_name pn_6) ?_
  intro p e s m below meth c T0 G C hnm hnamed X0 e0 K
  have N0 := Fr.nil n0
  refine Goes.to (congrArg T0.setTop (ef_6r m o1)) ?_
  have K00 := Keep.refl h0 []
  refine g_iconst C X0 d6_0 1 (v := 0) rfl ?_
  refine g_istoreN C X0 d6_1 2 (w := 0) rfl (ls' := #[rv o1, iv 0, uu]) rfl ?_
  refine g_aloadN C X0 d6_2 3 rfl rfl ?_
  refine g_callV0 C X0 (b_8 hw) F0 d6_3 [] [] 0 (rm7_4 hw Z0 F0 F1 F2 F3 F4 hcs) N0 pd_6 e0 6 (fun T1 _ X1 N1 e1 => ?_)
  refine g_istoreN C X1 d6_6 7 (w := 4) rfl (ls' := #[rv o1, iv 0, iv 4]) rfl ?_
  refine g_iloadN C X1 d6_7 8 rfl ?_
  refine g_iloadN C X1 d6_8 9 rfl ?_
  refine g_icmp_ge C X1 d6_9 29 12 (fun hc9 => absurd hc9 (by decide)) (fun hc9 => ?_)
  refine g_aloadN C X1 d6_12 13 rfl rfl ?_
  refine g_iloadN C X1 d6_13 14 rfl ?_
  refine g_callV0 C X1 (b_10 hw) F0 d6_14 [(.int 0)] [] 0 (rm16_4_0 hw Z0 F0 F1 F2 F3 F4 F5 hcs hwf) N1 pd_9 e1 17 (fun T2 _ X2 N2 e2 => ?_)
  refine g_callS0 C X2 (b_11 hw) d6_17 [(.int (own_ch c1))] [] 0 (rm21 hw Z0) N2 pd_10 e2 20 (fun T3 _ X3 N3 e3 => ?_)
  refine g_if_eq C X3 d6_20 29 23 (fun hc20 => absurd hc20 hs1) (fun hc20 => ?_)
  refine g_iinc C X3 d6_23 26 rfl (w := 1) rfl (ls' := #[rv o1, iv 1, iv 4]) rfl ?_
  refine g_goto C X3 d6_26 7 ?_
  refine g_iloadN C X3 d6_7 8 rfl ?_
  refine g_iloadN C X3 d6_8 9 rfl ?_
  refine g_icmp_ge C X3 d6_9 29 12 (fun hc9 => absurd hc9 (by decide)) (fun hc9 => ?_)
  refine g_aloadN C X3 d6_12 13 rfl rfl ?_
  refine g_iloadN C X3 d6_13 14 rfl ?_
  refine g_callV0 C X3 (b_10 hw) F0 d6_14 [(.int 1)] [] 0 (rm16_4_1 hw Z0 F0 F1 F2 F3 F4 F5 hcs hwf) N3 pd_9 e3 17 (fun T4 _ X4 N4 e4 => ?_)
  refine g_callS0 C X4 (b_11 hw) d6_17 [(.int (own_ch c2))] [] 0 (rm21 hw Z0) N4 pd_10 e4 20 (fun T5 _ X5 N5 e5 => ?_)
  refine g_if_eq C X5 d6_20 29 23 (fun hc20 => absurd hc20 hs2) (fun hc20 => ?_)
  refine g_iinc C X5 d6_23 26 rfl (w := 2) rfl (ls' := #[rv o1, iv 2, iv 4]) rfl ?_
  refine g_goto C X5 d6_26 7 ?_
  refine g_iloadN C X5 d6_7 8 rfl ?_
  refine g_iloadN C X5 d6_8 9 rfl ?_
  refine g_icmp_ge C X5 d6_9 29 12 (fun hc9 => absurd hc9 (by decide)) (fun hc9 => ?_)
  refine g_aloadN C X5 d6_12 13 rfl rfl ?_
  refine g_iloadN C X5 d6_13 14 rfl ?_
  refine g_callV0 C X5 (b_10 hw) F0 d6_14 [(.int 2)] [] 0 (rm16_4_2 hw Z0 F0 F1 F2 F3 F4 F5 hcs hwf) N5 pd_9 e5 17 (fun T6 _ X6 N6 e6 => ?_)
  refine g_callS0 C X6 (b_11 hw) d6_17 [(.int (own_ch c3))] [] 0 (rm21 hw Z0) N6 pd_10 e6 20 (fun T7 _ X7 N7 e7 => ?_)
  refine g_if_eq C X7 d6_20 29 23 (fun hc20 => ?_) (fun hc20 => absurd hs3 hc20)
  refine g_iloadN C X7 d6_29 30 rfl ?_
  refine g_iloadN C X7 d6_30 31 rfl ?_
  refine g_icmp_le C X7 d6_31 53 34 (fun hc31 => absurd hc31 (by decide)) (fun hc31 => ?_)
  refine g_aloadN C X7 d6_34 35 rfl rfl ?_
  refine g_iloadN C X7 d6_35 36 rfl ?_
  refine g_iconst C X7 d6_36 37 (v := 1) rfl ?_
  refine g_isub C X7 d6_37 38 ?_
  rw [show (4 : Int32) - 1 = 3 from by decide]
  refine g_callV0 C X7 (b_10 hw) F0 d6_38 [(.int 3)] [] 0 (rm16_4_3 hw Z0 F0 F1 F2 F3 F4 F5 hcs hwf) N7 pd_9 e7 41 (fun T8 _ X8 N8 e8 => ?_)
  refine g_callS0 C X8 (b_11 hw) d6_41 [(.int (own_ch c4))] [] 0 (rm21 hw Z0) N8 pd_10 e8 44 (fun T9 _ X9 N9 e9 => ?_)
  refine g_if_eq C X9 d6_44 53 47 (fun hc44 => ?_) (fun hc44 => absurd hs4 hc44)
  refine g_aloadN C X9 d6_53 54 rfl rfl ?_
  refine g_iloadN C X9 d6_54 55 rfl ?_
  refine g_iloadN C X9 d6_55 56 rfl ?_
  refine g_callV C X9 (w_46 hw) (w_47 hw) (notFace_of_selects (args := #[]) (mvT C.2.1 (w_49 hw))) (w_49 hw) (w_48 hw) (w_50 hw) (w_8 hw) F0 d6_56 [(.int 2), (.int 4)] [] 0 (rm9_4_2_4 hw Z0 F0 F1 F2 F3 F4 F5 hcs hwf) pd_8 e9 59 (fun u10 T10 L10 X10 hQ10 => ?_)
  obtain ⟨o310, o410, kd310, rfl, Nq10, szo310, szo410, Kq10, q10_0, q10_1, q10_2, q10_3⟩ := hQ10
  have N10 := Fr.app N9 Nq10
  have sz_o310 : h0.size ≤ o310 := Nat.le_trans K00.1 szo310
  have sz_o410 : h0.size ≤ o410 := Nat.le_trans K00.1 szo410
  have K10 := K00.trans Kq10 all0
  refine ret1 ?_
  exact g_retA C X10 K rfl rfl rfl d6_59 (by decide) (by decide) rfl ⟨o310, o410, kd310, rfl, N10, sz_o310, sz_o410, K10, q10_0, q10_1, q10_2, q10_3⟩
theorem rm25_3_4  (hw : OwnW a0 Z) (Z0 : n0 ≤ h0.size) : OwnMF l Z y25 jdk_65_method_131_code 2 none ws ⟨0, 0, 0, 0⟩ #[(.int 3), (.int 4)] h0 (OwnQ none h0 n0) := by
  refine bo (plainFor_of_name pn_23) ?_
  intro p e s m below meth c T0 G C hnm hnamed X0 e0 K
  have N0 := Fr.nil n0
  refine Goes.to (congrArg T0.setTop (ef_25ii m (3 : Int32) (4 : Int32))) ?_
  refine g_iloadN C X0 d25_0 1 rfl ?_
  refine g_iloadN C X0 d25_1 2 rfl ?_
  refine g_icmp_ge C X0 d25_2 37 5 (fun hc2 => ?_) (fun hc2 => absurd hc2 (by decide))
  exact g_retV C X0 K d25_37 (by decide) (by decide) e0 ⟨rfl, N0, rfl⟩
def Q24_4_3_4 (Z : State) (o1 : Addr) (kd1 : ClassId) (c1 : Int32) (c2 : Int32) (c3 : Int32) (c4 : Int32) (h0 : Heap) (n0 : Nat) (v : Option Value) (h : Heap) (L : List Loc) : Prop := ∃ (o3 : Addr) (kd3 : ClassId), v = some (.ref o3) ∧ Fr n0 L ∧ h0.size ≤ o3 ∧ Keep h0 h [] ∧ Arv Z h o3 kd3 .byte 1 [(.int c4)] (.int 0)
theorem rm24_4_3_4 {o1 : Addr} {kd1 : ClassId} {c1 c2 c3 c4 : Int32} (hw : OwnW a0 Z) (Z0 : n0 ≤ h0.size) (F0 : Arv Z h0 o1 kd1 .byte 4 [(.int c1), (.int c2), (.int c3), (.int c4)] (.int 0)) : OwnMF l Z y24 jdk_65_method_133_code 5 (some (.array .byte)) ws ⟨1, 1, 1, 18⟩ #[(.ref o1), (.int 3), (.int 4)] h0 (Q24_4_3_4 Z o1 kd1 c1 c2 c3 c4 h0 n0) := by
  refine bo (plainFor_of_name pn_23) ?_
  intro p e s m below meth c T0 G C hnm hnamed X0 e0 K
  have N0 := Fr.nil n0
  refine Goes.to (congrArg T0.setTop (ef_24rii m o1 (3 : Int32) (4 : Int32))) ?_
  have K00 := Keep.refl h0 []
  refine g_iloadN C X0 d24_0 1 rfl ?_
  refine g_iloadN C X0 d24_1 2 rfl ?_
  refine g_callSn C X0 (b_12 hw) d24_2 [(.int 3), (.int 4)] [] 0 (rm25_3_4 hw Z0 ) N0 pd_1 e0 5 (fun T1 _ X1 N1 e1 => ?_)
  refine g_iloadN C X1 d24_5 6 rfl ?_
  refine g_iloadN C X1 d24_6 7 rfl ?_
  refine g_isub C X1 d24_7 8 ?_
  rw [show (4 : Int32) - 3 = 1 from by decide]
  refine g_istoreN C X1 d24_8 9 (w := 1) rfl (ls' := #[rv o1, iv 3, iv 4, iv 1, uu]) rfl ?_
  refine g_iloadN C X1 d24_9 10 rfl ?_
  refine g_newA (aty := .byte) (n := (1 : Int32)) C X1 (cap := 1) (w_20 hw) e1 d24_10 12 (by decide) (by decide) (by decide) (by decide) (by decide) (fun T2 h2 b2 ki2 X2 e2 g2 E2 A2 => ?_)
  have f4 := F0.ext E2
  have gn_b2 : n0 ≤ b2 := Nat.le_trans Z0 (Nat.le_of_eq g2.symm)
  have Z2 := Nat.le_trans Z0 E2.1
  have sz_b2 : h0.size ≤ b2 := Nat.le_trans K00.1 (Nat.le_of_eq g2.symm)
  have K2 := K00.ext E2
  have f5 : Arv Z h2 b2 ki2 .byte 1 [(.int 0)] (.int 0) := A2.pad (pad_rep [] (.int 0) 1)
  refine g_astore C X2 d24_12 14 rfl (ls' := #[rv o1, iv 3, iv 4, iv 1, rv b2]) rfl ?_
  refine g_aloadN C X2 d24_14 15 rfl rfl ?_
  refine g_iloadN C X2 d24_15 16 rfl ?_
  refine g_aload C X2 d24_16 18 rfl rfl ?_
  refine g_iconst C X2 d24_18 19 (v := 0) rfl ?_
  refine g_aloadN C X2 d24_19 20 rfl rfl ?_
  refine g_arraylength C X2 e2 f4 d24_20 21 ?_
  refine g_iloadN C X2 d24_21 22 rfl ?_
  refine g_isub C X2 d24_22 23 ?_
  rw [show (4 : Int32) - 3 = 1 from by decide]
  refine g_iloadN C X2 d24_23 24 rfl ?_
  refine g_callS0 C X2 (b_13 hw) d24_24 [(.int 1), (.int 1)] [(.int 0), (.ref b2), (.int 3), (.ref o1)] 4 (rm26 hw Z2) N1 pd_11 e2 27 (fun T6 _ X6 N6 e6 => ?_)
  rw [show fMin (1 : Int32) (1 : Int32) = (1 : Int32) from by decide]
  refine g_acopy C X6 (us := [(.int c4)]) (ur := [(.int c4)]) (w_115 hw) (w_118 hw) (w_116 hw) (w_117 hw) e6 f4 f5 rfl (by decide) (by decide) (by decide) (by decide) (by decide) rfl (by simp; try decide) rfl N6 gn_b2 rfl d24_27 30 (by decide) (W := 0) (Nat.le_of_eq rfl) (by decide) (fun T7 h7 L7 X7 e7 N7 Kq7 V7 => ?_)
  have K7 := K2.trans Kq7 (allS (Or.inr sz_b2) all0)
  refine g_aload C X7 d24_30 32 rfl rfl ?_
  exact g_retA C X7 K rfl rfl rfl d24_32 (by decide) (by decide) e7 ⟨b2, ki2, rfl, N7, sz_b2, K7, V7⟩
def Q23_4_3_4 (Z : State) (o1 : Addr) (kd1 : ClassId) (c1 : Int32) (c2 : Int32) (c3 : Int32) (c4 : Int32) (h0 : Heap) (n0 : Nat) (v : Option Value) (h : Heap) (L : List Loc) : Prop := ∃ (o3 : Addr) (kd3 : ClassId), v = some (.ref o3) ∧ Fr n0 L ∧ h0.size ≤ o3 ∧ Keep h0 h [] ∧ Arv Z h o3 kd3 .byte 1 [(.int c4)] (.int 0)
theorem rm23_4_3_4 {o1 : Addr} {kd1 : ClassId} {c1 c2 c3 c4 : Int32} (hw : OwnW a0 Z) (Z0 : n0 ≤ h0.size) (F0 : Arv Z h0 o1 kd1 .byte 4 [(.int c1), (.int c2), (.int c3), (.int c4)] (.int 0)) : OwnMF l Z y23 jdk_65_method_132_code 3 (some (.array .byte)) ws ⟨2, 1, 1, 34⟩ #[(.ref o1), (.int 3), (.int 4)] h0 (Q23_4_3_4 Z o1 kd1 c1 c2 c3 c4 h0 n0) := by
  refine bo (plainFor_of_name pn_23) ?_
  intro p e s m below meth c T0 G C hnm hnamed X0 e0 K
  have N0 := Fr.nil n0
  refine Goes.to (congrArg T0.setTop (ef_23rii m o1 (3 : Int32) (4 : Int32))) ?_
  have K00 := Keep.refl h0 []
  refine g_iloadN C X0 d23_0 1 rfl ?_
  refine g_if_ne C X0 d23_1 10 4 (fun hc1 => ?_) (fun hc1 => absurd hc1 (by decide))
  refine g_aloadN C X0 d23_10 11 rfl rfl ?_
  refine g_iloadN C X0 d23_11 12 rfl ?_
  refine g_iloadN C X0 d23_12 13 rfl ?_
  refine g_callS C X0 (w_106 hw) (w_107 hw) (w_104 hw) (w_108 hw) d23_13 [(.ref o1), (.int 3), (.int 4)] [] 0 (rm24_4_3_4 hw Z0 F0) pd_12 e0 16 (fun u1 T1 L1 X1 hQ1 => ?_)
  obtain ⟨o31, kd31, rfl, Nq1, szo31, Kq1, q1_0⟩ := hQ1
  have N1 := Fr.app N0 Nq1
  have sz_o31 : h0.size ≤ o31 := Nat.le_trans K00.1 szo31
  have K1 := K00.trans Kq1 all0
  refine ret1 ?_
  exact g_retA C X1 K rfl rfl rfl d23_16 (by decide) (by decide) rfl ⟨o31, kd31, rfl, N1, sz_o31, K1, q1_0⟩
def Q22_4_3_1 (Z : State) (o1 : Addr) (kd1 : ClassId) (c1 : Int32) (c2 : Int32) (c3 : Int32) (c4 : Int32) (h0 : Heap) (n0 : Nat) (v : Option Value) (h : Heap) (L : List Loc) : Prop := ∃ (o3 : Addr) (o4 : Addr) (kd3 : ClassId), v = some (.ref o3) ∧ Fr n0 L ∧ h0.size ≤ o3 ∧ h0.size ≤ o4 ∧ Keep h0 h [] ∧ OEs Z h o3 ∧ OFv Z h o3 (.ref o4) ∧ OFc Z h o3 ∧ Arv Z h o4 kd3 .byte 1 [(.int c4)] (.int 0)
theorem rm22_4_3_1 {o1 : Addr} {kd1 : ClassId} {c1 c2 c3 c4 : Int32} (hw : OwnW a0 Z) (Z0 : n0 ≤ h0.size) (F0 : Arv Z h0 o1 kd1 .byte 4 [(.int c1), (.int c2), (.int c3), (.int c4)] (.int 0)) : OwnMF l Z y22 jdk_43_method_47_code 3 (some (.object "java/lang/String")) ws ⟨3, 2, 5, 50⟩ #[(.ref o1), (.int 3), (.int 1)] h0 (Q22_4_3_1 Z o1 kd1 c1 c2 c3 c4 h0 n0) := by
  refine bo (plainFor_of_name pn_18) ?_
  intro p e s m below meth c T0 G C hnm hnamed X0 e0 K
  have N0 := Fr.nil n0
  refine Goes.to (congrArg T0.setTop (ef_22rii m o1 (3 : Int32) (1 : Int32))) ?_
  have K00 := Keep.refl h0 []
  refine g_iloadN C X0 d22_0 1 rfl ?_
  refine g_if_ne C X0 d22_1 7 4 (fun hc1 => ?_) (fun hc1 => absurd hc1 (by decide))
  refine g_new C X0 (w_101 hw) (w_7 hw) (w_8 hw) e0 d22_7 10 (by decide) (by decide) (fun T1 h1 b1 X1 e1 g1 E1 A1 D1 => ?_)
  have f3 := F0.ext E1
  have gn_b1 : n0 ≤ b1 := Nat.le_trans Z0 (Nat.le_of_eq g1.symm)
  have Z1 := Nat.le_trans Z0 E1.1
  have sz_b1 : h0.size ≤ b1 := Nat.le_trans K00.1 (Nat.le_of_eq g1.symm)
  have K1 := K00.ext E1
  have f4 : OFv Z h1 b1 .null := D1 (Or.inr (w_21 hw)) (ty := (.array .byte)) (by decide)
  have f5 : OFc Z h1 b1 := D1 (Or.inr (w_22 hw)) (ty := .byte) (by decide)
  refine g_dup C X1 d22_10 11 rfl ?_
  refine g_aloadN C X1 d22_11 12 rfl rfl ?_
  refine g_iloadN C X1 d22_12 13 rfl ?_
  refine g_iloadN C X1 d22_13 14 rfl ?_
  refine g_iloadN C X1 d22_14 15 rfl ?_
  refine g_iadd C X1 d22_15 16 ?_
  rw [show (3 : Int32) + 1 = 4 from by decide]
  refine g_callS C X1 (w_102 hw) (w_103 hw) (w_104 hw) (w_105 hw) d22_16 [(.ref o1), (.int 3), (.int 4)] [(.ref b1), (.ref b1)] 2 (rm23_4_3_4 hw Z1 f3) pd_12 e1 19 (fun u6 T6 L6 X6 hQ6 => ?_)
  obtain ⟨o36, kd36, rfl, Nq6, szo36, Kq6, q6_0⟩ := hQ6
  have N6 := Fr.app N0 Nq6
  have n7 : b1 ≠ o36 := Nat.ne_of_lt (Nat.lt_of_lt_of_le A1.lt szo36)
  have f10 := A1.keep Kq6
  have f11 := f4.keep Kq6 nin0
  have f12 := f5.keep Kq6 nin0
  have Z6 := Nat.le_trans Z1 Kq6.1
  have sz_o36 : h0.size ≤ o36 := Nat.le_trans K1.1 szo36
  have K6 := K1.trans Kq6 all0
  refine ret1 ?_
  refine g_iconst C X6 d22_19 20 (v := 0) rfl ?_
  refine g_callI C X6 rfl (w_119 hw) (w_120 hw) (w_8 hw) (w_121 hw) d22_20 [(.ref o36), (.int 0)] [(.ref b1)] 1 (rm27 hw Z6 f10 f11 f12 gn_b1) pd_13 rfl 23 (fun u13 T13 L13 X13 hQ13 => ?_)
  obtain ⟨rfl, Nq13, Kq13, q13_0, q13_1, q13_2⟩ := hQ13
  have N13 := Fr.app N6 Nq13
  have f16 := q6_0.keep Kq13 (ninS (Ne.symm n7) nin0)
  have K13 := K6.trans Kq13 (allS (Or.inr sz_b1) all0)
  refine ret0 ?_
  exact g_retA C X13 K rfl rfl rfl d22_23 (by decide) (by decide) rfl ⟨b1, o36, kd36, rfl, N13, sz_b1, sz_o36, K13, q13_0, q13_1, q13_2, f16⟩
def Q9_4_3_4 (Z : State) (o1 : Addr) (o2 : Addr) (kd1 : ClassId) (c1 : Int32) (c2 : Int32) (c3 : Int32) (c4 : Int32) (cs1 : Int32) (wf1 : Value) (h0 : Heap) (n0 : Nat) (v : Option Value) (h : Heap) (L : List Loc) : Prop := ∃ (o3 : Addr) (o4 : Addr) (kd3 : ClassId), v = some (.ref o3) ∧ Fr n0 L ∧ h0.size ≤ o3 ∧ h0.size ≤ o4 ∧ Keep h0 h [] ∧ OEs Z h o3 ∧ OFv Z h o3 (.ref o4) ∧ OFc Z h o3 ∧ Arv Z h o4 kd3 .byte 1 [(.int c4)] (.int 0)
theorem rm9_4_3_4 {o1 o2 : Addr} {kd1 : ClassId} {c1 c2 c3 c4 cs1 : Int32} {wf1 : Value} (hw : OwnW a0 Z) (Z0 : n0 ≤ h0.size) (F0 : OEs Z h0 o1) (F1 : OFv Z h0 o1 (.ref o2)) (F2 : OFc Z h0 o1) (F3 : Arv Z h0 o2 kd1 .byte 4 [(.int c1), (.int c2), (.int c3), (.int c4)] (.int 0)) (F4 : OSc Z h0 cs1) (F5 : OSf Z h0 wf1) (hcs : ¬ cs1 = (0 : Int32)) (hwf : wf1.isRef = true) : OwnMF l Z y9 jdk_42_method_92_code 5 (some (.object "java/lang/String")) ws ⟨4, 2, 5, 64⟩ #[(.ref o1), (.int 3), (.int 4)] h0 (Q9_4_3_4 Z o1 o2 kd1 c1 c2 c3 c4 cs1 wf1 h0 n0) := by
  refine bo (plainFor_of_name pn_2) ?_
  intro p e s m below meth c T0 G C hnm hnamed X0 e0 K
  have N0 := Fr.nil n0
  refine Goes.to (congrArg T0.setTop (ef_9rii m o1 (3 : Int32) (4 : Int32))) ?_
  have K00 := Keep.refl h0 []
  refine g_aloadN C X0 d9_0 1 rfl rfl ?_
  refine g_callV0 C X0 (b_6 hw) F0 d9_1 [] [] 0 (rm7_4 hw Z0 F0 F1 F2 F3 F4 hcs) N0 pd_6 e0 4 (fun T1 _ X1 N1 e1 => ?_)
  refine g_istoreN C X1 d9_4 5 (w := 4) rfl (ls' := #[rv o1, iv 3, iv 4, iv 4, uu]) rfl ?_
  refine g_iloadN C X1 d9_5 6 rfl ?_
  refine g_iloadN C X1 d9_6 7 rfl ?_
  refine g_iloadN C X1 d9_7 8 rfl ?_
  refine g_callSn C X1 (b_7 hw) d9_8 [(.int 3), (.int 4), (.int 4)] [] 0 (rm10 hw Z0 F5 hwf (by decide) (by decide) (by decide)) N1 pd_7 e1 11 (fun T2 _ X2 N2 e2 => ?_)
  refine g_iloadN C X2 d9_11 12 rfl ?_
  refine g_if_ne C X2 d9_12 22 15 (fun hc12 => ?_) (fun hc12 => absurd hc12 (by decide))
  refine g_iloadN C X2 d9_22 23 rfl ?_
  refine g_iloadN C X2 d9_23 24 rfl ?_
  refine g_isub C X2 d9_24 25 ?_
  rw [show (4 : Int32) - 3 = 1 from by decide]
  refine g_istore C X2 d9_25 27 (w := 1) rfl (ls' := #[rv o1, iv 3, iv 4, iv 4, iv 1]) rfl ?_
  refine g_aloadN C X2 d9_27 28 rfl rfl ?_
  refine g_callV0 C X2 (b_2 hw) F0 d9_28 [] [] 0 (rm17 hw Z0 F2 F4 hcs) N2 pd_2 e2 31 (fun T3 _ X3 N3 e3 => ?_)
  refine g_if_eq C X3 d9_31 47 34 (fun hc31 => absurd hc31 (by decide)) (fun hc31 => ?_)
  refine g_aloadN C X3 d9_34 35 rfl rfl ?_
  refine g_getF C X3 (w_25 hw) Via.refl e3 F1 d9_35 38 (fun T4 X4 e4 => ?_)
  refine g_iloadN C X4 d9_38 39 rfl ?_
  refine g_iload C X4 d9_39 41 rfl ?_
  refine g_callS C X4 (w_98 hw) (w_99 hw) (w_86 hw) (w_100 hw) d9_41 [(.ref o2), (.int 3), (.int 1)] [] 0 (rm22_4_3_1 hw Z0 F3) pd_14 e4 44 (fun u5 T5 L5 X5 hQ5 => ?_)
  obtain ⟨o35, o45, kd35, rfl, Nq5, szo35, szo45, Kq5, q5_0, q5_1, q5_2, q5_3⟩ := hQ5
  have N5 := Fr.app N3 Nq5
  have sz_o35 : h0.size ≤ o35 := Nat.le_trans K00.1 szo35
  have sz_o45 : h0.size ≤ o45 := Nat.le_trans K00.1 szo45
  have K5 := K00.trans Kq5 all0
  refine ret1 ?_
  refine g_goto C X5 d9_44 57 ?_
  exact g_retA C X5 K rfl rfl rfl d9_57 (by decide) (by decide) rfl ⟨o35, o45, kd35, rfl, N5, sz_o35, sz_o45, K5, q5_0, q5_1, q5_2, q5_3⟩
def Q6_4_3_4 (Z : State) (o1 : Addr) (o2 : Addr) (kd1 : ClassId) (c1 : Int32) (c2 : Int32) (c3 : Int32) (c4 : Int32) (cs1 : Int32) (wf1 : Value) (h0 : Heap) (n0 : Nat) (v : Option Value) (h : Heap) (L : List Loc) : Prop := ∃ (o3 : Addr) (o4 : Addr) (kd3 : ClassId), v = some (.ref o3) ∧ Fr n0 L ∧ h0.size ≤ o3 ∧ h0.size ≤ o4 ∧ Keep h0 h [] ∧ OEs Z h o3 ∧ OFv Z h o3 (.ref o4) ∧ OFc Z h o3 ∧ Arv Z h o4 kd3 .byte 1 [(.int c4)] (.int 0)
theorem rm6_4_3_4 {o1 o2 : Addr} {kd1 : ClassId} {c1 c2 c3 c4 cs1 : Int32} {wf1 : Value} (hw : OwnW a0 Z) (Z0 : n0 ≤ h0.size) (F0 : OEs Z h0 o1) (F1 : OFv Z h0 o1 (.ref o2)) (F2 : OFc Z h0 o1) (F3 : Arv Z h0 o2 kd1 .byte 4 [(.int c1), (.int c2), (.int c3), (.int c4)] (.int 0)) (F4 : OSc Z h0 cs1) (F5 : OSf Z h0 wf1) (hcs : ¬ cs1 = (0 : Int32)) (hwf : wf1.isRef = true) (hs1 : ¬ fIs (own_ch c1) = (0 : Int32)) (hs2 : ¬ fIs (own_ch c2) = (0 : Int32)) (hs3 : ¬ fIs (own_ch c3) = (0 : Int32)) (hs4 : fIs (own_ch c4) = (0 : Int32)) : OwnMF l Z y6 prog_35_method_2_code 3 (some (.object "java/lang/String")) ws ⟨5, 2, 5, 80⟩ #[(.ref o1)] h0 (Q6_4_3_4 Z o1 o2 kd1 c1 c2 c3 c4 cs1 wf1 h0 n0) := by
  refine bo (plainFor_of_name pn_6) ?_
  intro p e s m below meth c T0 G C hnm hnamed X0 e0 K
  have N0 := Fr.nil n0
  refine Goes.to (congrArg T0.setTop (ef_6r m o1)) ?_
  have K00 := Keep.refl h0 []
  refine g_iconst C X0 d6_0 1 (v := 0) rfl ?_
  refine g_istoreN C X0 d6_1 2 (w := 0) rfl (ls' := #[rv o1, iv 0, uu]) rfl ?_
  refine g_aloadN C X0 d6_2 3 rfl rfl ?_
  refine g_callV0 C X0 (b_8 hw) F0 d6_3 [] [] 0 (rm7_4 hw Z0 F0 F1 F2 F3 F4 hcs) N0 pd_6 e0 6 (fun T1 _ X1 N1 e1 => ?_)
  refine g_istoreN C X1 d6_6 7 (w := 4) rfl (ls' := #[rv o1, iv 0, iv 4]) rfl ?_
  refine g_iloadN C X1 d6_7 8 rfl ?_
  refine g_iloadN C X1 d6_8 9 rfl ?_
  refine g_icmp_ge C X1 d6_9 29 12 (fun hc9 => absurd hc9 (by decide)) (fun hc9 => ?_)
  refine g_aloadN C X1 d6_12 13 rfl rfl ?_
  refine g_iloadN C X1 d6_13 14 rfl ?_
  refine g_callV0 C X1 (b_10 hw) F0 d6_14 [(.int 0)] [] 0 (rm16_4_0 hw Z0 F0 F1 F2 F3 F4 F5 hcs hwf) N1 pd_9 e1 17 (fun T2 _ X2 N2 e2 => ?_)
  refine g_callS0 C X2 (b_11 hw) d6_17 [(.int (own_ch c1))] [] 0 (rm21 hw Z0) N2 pd_10 e2 20 (fun T3 _ X3 N3 e3 => ?_)
  refine g_if_eq C X3 d6_20 29 23 (fun hc20 => absurd hc20 hs1) (fun hc20 => ?_)
  refine g_iinc C X3 d6_23 26 rfl (w := 1) rfl (ls' := #[rv o1, iv 1, iv 4]) rfl ?_
  refine g_goto C X3 d6_26 7 ?_
  refine g_iloadN C X3 d6_7 8 rfl ?_
  refine g_iloadN C X3 d6_8 9 rfl ?_
  refine g_icmp_ge C X3 d6_9 29 12 (fun hc9 => absurd hc9 (by decide)) (fun hc9 => ?_)
  refine g_aloadN C X3 d6_12 13 rfl rfl ?_
  refine g_iloadN C X3 d6_13 14 rfl ?_
  refine g_callV0 C X3 (b_10 hw) F0 d6_14 [(.int 1)] [] 0 (rm16_4_1 hw Z0 F0 F1 F2 F3 F4 F5 hcs hwf) N3 pd_9 e3 17 (fun T4 _ X4 N4 e4 => ?_)
  refine g_callS0 C X4 (b_11 hw) d6_17 [(.int (own_ch c2))] [] 0 (rm21 hw Z0) N4 pd_10 e4 20 (fun T5 _ X5 N5 e5 => ?_)
  refine g_if_eq C X5 d6_20 29 23 (fun hc20 => absurd hc20 hs2) (fun hc20 => ?_)
  refine g_iinc C X5 d6_23 26 rfl (w := 2) rfl (ls' := #[rv o1, iv 2, iv 4]) rfl ?_
  refine g_goto C X5 d6_26 7 ?_
  refine g_iloadN C X5 d6_7 8 rfl ?_
  refine g_iloadN C X5 d6_8 9 rfl ?_
  refine g_icmp_ge C X5 d6_9 29 12 (fun hc9 => absurd hc9 (by decide)) (fun hc9 => ?_)
  refine g_aloadN C X5 d6_12 13 rfl rfl ?_
  refine g_iloadN C X5 d6_13 14 rfl ?_
  refine g_callV0 C X5 (b_10 hw) F0 d6_14 [(.int 2)] [] 0 (rm16_4_2 hw Z0 F0 F1 F2 F3 F4 F5 hcs hwf) N5 pd_9 e5 17 (fun T6 _ X6 N6 e6 => ?_)
  refine g_callS0 C X6 (b_11 hw) d6_17 [(.int (own_ch c3))] [] 0 (rm21 hw Z0) N6 pd_10 e6 20 (fun T7 _ X7 N7 e7 => ?_)
  refine g_if_eq C X7 d6_20 29 23 (fun hc20 => absurd hc20 hs3) (fun hc20 => ?_)
  refine g_iinc C X7 d6_23 26 rfl (w := 3) rfl (ls' := #[rv o1, iv 3, iv 4]) rfl ?_
  refine g_goto C X7 d6_26 7 ?_
  refine g_iloadN C X7 d6_7 8 rfl ?_
  refine g_iloadN C X7 d6_8 9 rfl ?_
  refine g_icmp_ge C X7 d6_9 29 12 (fun hc9 => absurd hc9 (by decide)) (fun hc9 => ?_)
  refine g_aloadN C X7 d6_12 13 rfl rfl ?_
  refine g_iloadN C X7 d6_13 14 rfl ?_
  refine g_callV0 C X7 (b_10 hw) F0 d6_14 [(.int 3)] [] 0 (rm16_4_3 hw Z0 F0 F1 F2 F3 F4 F5 hcs hwf) N7 pd_9 e7 17 (fun T8 _ X8 N8 e8 => ?_)
  refine g_callS0 C X8 (b_11 hw) d6_17 [(.int (own_ch c4))] [] 0 (rm21 hw Z0) N8 pd_10 e8 20 (fun T9 _ X9 N9 e9 => ?_)
  refine g_if_eq C X9 d6_20 29 23 (fun hc20 => ?_) (fun hc20 => absurd hs4 hc20)
  refine g_iloadN C X9 d6_29 30 rfl ?_
  refine g_iloadN C X9 d6_30 31 rfl ?_
  refine g_icmp_le C X9 d6_31 53 34 (fun hc31 => absurd hc31 (by decide)) (fun hc31 => ?_)
  refine g_aloadN C X9 d6_34 35 rfl rfl ?_
  refine g_iloadN C X9 d6_35 36 rfl ?_
  refine g_iconst C X9 d6_36 37 (v := 1) rfl ?_
  refine g_isub C X9 d6_37 38 ?_
  rw [show (4 : Int32) - 1 = 3 from by decide]
  refine g_callV0 C X9 (b_10 hw) F0 d6_38 [(.int 3)] [] 0 (rm16_4_3 hw Z0 F0 F1 F2 F3 F4 F5 hcs hwf) N9 pd_9 e9 41 (fun T10 _ X10 N10 e10 => ?_)
  refine g_callS0 C X10 (b_11 hw) d6_41 [(.int (own_ch c4))] [] 0 (rm21 hw Z0) N10 pd_10 e10 44 (fun T11 _ X11 N11 e11 => ?_)
  refine g_if_eq C X11 d6_44 53 47 (fun hc44 => ?_) (fun hc44 => absurd hc20 hc44)
  refine g_aloadN C X11 d6_53 54 rfl rfl ?_
  refine g_iloadN C X11 d6_54 55 rfl ?_
  refine g_iloadN C X11 d6_55 56 rfl ?_
  refine g_callV C X11 (w_46 hw) (w_47 hw) (notFace_of_selects (args := #[]) (mvT C.2.1 (w_49 hw))) (w_49 hw) (w_48 hw) (w_50 hw) (w_8 hw) F0 d6_56 [(.int 3), (.int 4)] [] 0 (rm9_4_3_4 hw Z0 F0 F1 F2 F3 F4 F5 hcs hwf) pd_8 e11 59 (fun u12 T12 L12 X12 hQ12 => ?_)
  obtain ⟨o312, o412, kd312, rfl, Nq12, szo312, szo412, Kq12, q12_0, q12_1, q12_2, q12_3⟩ := hQ12
  have N12 := Fr.app N11 Nq12
  have sz_o312 : h0.size ≤ o312 := Nat.le_trans K00.1 szo312
  have sz_o412 : h0.size ≤ o412 := Nat.le_trans K00.1 szo412
  have K12 := K00.trans Kq12 all0
  refine ret1 ?_
  exact g_retA C X12 K rfl rfl rfl d6_59 (by decide) (by decide) rfl ⟨o312, o412, kd312, rfl, N12, sz_o312, sz_o412, K12, q12_0, q12_1, q12_2, q12_3⟩
theorem d22_4 : decode jdk_43_method_47_code 4 = .ok (.ldc 151, 2) := by decide +kernel
theorem strAtoms0 : ∀ a ∈ Bundle.stringAtoms, a ∈ tables_1 := by decide +kernel
theorem strAtoms {Z : State} {a0 : Array Value} (hw : ∀ d ∈ tables_1, d.before a0 Z = true) : ∀ a ∈ Bundle.stringAtoms, a.before a0 Z = true := fun a ha => hw a (strAtoms0 a ha)
theorem d22_6 : decode jdk_43_method_47_code 6 = .ok (.areturn, 1) := by decide +kernel
def Q22_1_1_0 (Z : State) (o1 : Addr) (h0 : Heap) (n0 : Nat) (v : Option Value) (h : Heap) (L : List Loc) : Prop := ∃ (o3 : Addr) (o4 : Addr) (kd3 : ClassId), v = some (.ref o3) ∧ Fr n0 L ∧ Keep h0 h [] ∧ OEs Z h o3 ∧ OFv Z h o3 (.ref o4) ∧ OFc Z h o3 ∧ Arv Z h o4 kd3 .byte 0 [] (.int 0)
theorem rm22_1_1_0 {o1 : Addr} (hw : OwnW a0 Z) (Z0 : n0 ≤ h0.size) (hEL : EW Z a0 EL) : OwnMFH l Z EL y22 jdk_43_method_47_code 3 (some (.object "java/lang/String")) ws ⟨0, 2, 4, 0⟩ #[(.ref o1), (.int 1), (.int 0)] h0 (Q22_1_1_0 Z o1 h0 n0) := by
  refine boH (plainFor_of_name pn_18) ?_
  intro p e s m below meth c T0 G C hnm hnamed X0 e0 hh0 hS0 H0_ R0_ K
  have N0 := Fr.nil n0
  refine Goes.to (congrArg T0.setTop (ef_22rii m o1 (1 : Int32) (0 : Int32))) ?_
  have K00 := Keep.refl h0 []
  refine g_iloadN C X0 d22_0 1 rfl ?_
  refine g_if_ne C X0 d22_1 7 4 (fun hc1 => absurd hc1 (by decide)) (fun hc1 => ?_)
  refine g_ldcCH C X0 (n := 0) (z := (0 : Int32)) (vs := []) (hw _ (List.mem_of_getElem? (i := 122) rfl)) (strAtoms hw) e0 hS0 (Nat.zero_le _) hEL (by decide) H0_ ⟨by decide, rfl⟩ (by decide) rfl d22_4 6 (by decide) (by decide) (by decide) (by decide) (fun b1 T1 h1 k1 bb1 ki1 C1 X1 e1 E1 hS1 hk1 fe1 fc1 fv1 fa1 A1 sn1 => ?_)
  have H_1 := A1.1
  have R_1 := R0_.trans A1
  have K1 := K00.ext E1
  exact g_retAH C1 X1 K hS1 hk1 hEL H_1 R_1 rfl rfl rfl d22_6 (by decide) (by decide) e1 ⟨b1, bb1, ki1, rfl, N0, K1, fe1, fv1, fc1, fa1⟩
def Q9_1_1_1 (Z : State) (o1 : Addr) (o2 : Addr) (kd1 : ClassId) (c1 : Int32) (cs1 : Int32) (wf1 : Value) (h0 : Heap) (n0 : Nat) (v : Option Value) (h : Heap) (L : List Loc) : Prop := ∃ (o3 : Addr) (o4 : Addr) (kd3 : ClassId), v = some (.ref o3) ∧ Fr n0 L ∧ Keep h0 h [] ∧ OEs Z h o3 ∧ OFv Z h o3 (.ref o4) ∧ OFc Z h o3 ∧ Arv Z h o4 kd3 .byte 0 [] (.int 0)
theorem rm9_1_1_1 {o1 o2 : Addr} {kd1 : ClassId} {c1 cs1 : Int32} {wf1 : Value} (hw : OwnW a0 Z) (Z0 : n0 ≤ h0.size) (hEL : EW Z a0 EL) (F0 : OEs Z h0 o1) (F1 : OFv Z h0 o1 (.ref o2)) (F2 : OFc Z h0 o1) (F3 : Arv Z h0 o2 kd1 .byte 1 [(.int c1)] (.int 0)) (F4 : OSc Z h0 cs1) (F5 : OSf Z h0 wf1) (hcs : ¬ cs1 = (0 : Int32)) (hwf : wf1.isRef = true) : OwnMFH l Z EL y9 jdk_42_method_92_code 5 (some (.object "java/lang/String")) ws ⟨2, 2, 4, 29⟩ #[(.ref o1), (.int 1), (.int 1)] h0 (Q9_1_1_1 Z o1 o2 kd1 c1 cs1 wf1 h0 n0) := by
  refine boH (plainFor_of_name pn_2) ?_
  intro p e s m below meth c T0 G C hnm hnamed X0 e0 hh0 hS0 H0_ R0_ K
  have N0 := Fr.nil n0
  refine Goes.to (congrArg T0.setTop (ef_9rii m o1 (1 : Int32) (1 : Int32))) ?_
  have K00 := Keep.refl h0 []
  refine g_aloadN C X0 d9_0 1 rfl rfl ?_
  refine g_callV0 C X0 (b_6 hw) F0 d9_1 [] [] 0 (rm7_1 hw Z0 F0 F1 F2 F3 F4 hcs) N0 pd_6 e0 4 (fun T1 _ X1 N1 e1 => ?_)
  refine g_istoreN C X1 d9_4 5 (w := 1) rfl (ls' := #[rv o1, iv 1, iv 1, iv 1, uu]) rfl ?_
  refine g_iloadN C X1 d9_5 6 rfl ?_
  refine g_iloadN C X1 d9_6 7 rfl ?_
  refine g_iloadN C X1 d9_7 8 rfl ?_
  refine g_callSn C X1 (b_7 hw) d9_8 [(.int 1), (.int 1), (.int 1)] [] 0 (rm10 hw Z0 F5 hwf (by decide) (by decide) (by decide)) N1 pd_7 e1 11 (fun T2 _ X2 N2 e2 => ?_)
  refine g_iloadN C X2 d9_11 12 rfl ?_
  refine g_if_ne C X2 d9_12 22 15 (fun hc12 => ?_) (fun hc12 => absurd hc12 (by decide))
  refine g_iloadN C X2 d9_22 23 rfl ?_
  refine g_iloadN C X2 d9_23 24 rfl ?_
  refine g_isub C X2 d9_24 25 ?_
  rw [show (1 : Int32) - 1 = 0 from by decide]
  refine g_istore C X2 d9_25 27 (w := 0) rfl (ls' := #[rv o1, iv 1, iv 1, iv 1, iv 0]) rfl ?_
  refine g_aloadN C X2 d9_27 28 rfl rfl ?_
  refine g_callV0 C X2 (b_2 hw) F0 d9_28 [] [] 0 (rm17 hw Z0 F2 F4 hcs) N2 pd_2 e2 31 (fun T3 _ X3 N3 e3 => ?_)
  refine g_if_eq C X3 d9_31 47 34 (fun hc31 => absurd hc31 (by decide)) (fun hc31 => ?_)
  refine g_aloadN C X3 d9_34 35 rfl rfl ?_
  refine g_getF C X3 (w_25 hw) Via.refl e3 F1 d9_35 38 (fun T4 X4 e4 => ?_)
  refine g_iloadN C X4 d9_38 39 rfl ?_
  refine g_iload C X4 d9_39 41 rfl ?_
  refine g_callSH C X4 hS0 (Nat.zero_le _) hEL H0_ (w_98 hw) (w_99 hw) (w_86 hw) (w_100 hw) d9_41 [(.ref o2), (.int 1), (.int 0)] [] 0 (rm22_1_1_0 hw Z0 hEL ) pd_14 e4 44 (fun u5 T5 L5 C5 X5 hQ5 hS5 A5 => ?_)
  obtain ⟨o35, o45, kd35, rfl, Nq5, Kq5, q5_0, q5_1, q5_2, q5_3⟩ := hQ5
  have N5 := Fr.app N3 Nq5
  have H_5 := A5.1
  have R_5 := R0_.trans A5
  have K5 := K00.trans Kq5 all0
  refine ret1 ?_
  refine g_goto C5 X5 d9_44 57 ?_
  exact g_retAH C5 X5 K hS5 (Nat.le_refl _) hEL H_5 R_5 rfl rfl rfl d9_57 (by decide) (by decide) rfl ⟨o35, o45, kd35, rfl, N5, K5, q5_0, q5_1, q5_2, q5_3⟩
def Q6_1_1_1 (Z : State) (o1 : Addr) (o2 : Addr) (kd1 : ClassId) (c1 : Int32) (cs1 : Int32) (wf1 : Value) (h0 : Heap) (n0 : Nat) (v : Option Value) (h : Heap) (L : List Loc) : Prop := ∃ (o3 : Addr) (o4 : Addr) (kd3 : ClassId), v = some (.ref o3) ∧ Fr n0 L ∧ Keep h0 h [] ∧ OEs Z h o3 ∧ OFv Z h o3 (.ref o4) ∧ OFc Z h o3 ∧ Arv Z h o4 kd3 .byte 0 [] (.int 0)
theorem rm6_1_1_1 {o1 o2 : Addr} {kd1 : ClassId} {c1 cs1 : Int32} {wf1 : Value} (hw : OwnW a0 Z) (Z0 : n0 ≤ h0.size) (hEL : EW Z a0 EL) (F0 : OEs Z h0 o1) (F1 : OFv Z h0 o1 (.ref o2)) (F2 : OFc Z h0 o1) (F3 : Arv Z h0 o2 kd1 .byte 1 [(.int c1)] (.int 0)) (F4 : OSc Z h0 cs1) (F5 : OSf Z h0 wf1) (hcs : ¬ cs1 = (0 : Int32)) (hwf : wf1.isRef = true) (hs1 : ¬ fIs (own_ch c1) = (0 : Int32)) : OwnMFH l Z EL y6 prog_35_method_2_code 3 (some (.object "java/lang/String")) ws ⟨4, 2, 4, 53⟩ #[(.ref o1)] h0 (Q6_1_1_1 Z o1 o2 kd1 c1 cs1 wf1 h0 n0) := by
  refine boH (plainFor_of_name pn_6) ?_
  intro p e s m below meth c T0 G C hnm hnamed X0 e0 hh0 hS0 H0_ R0_ K
  have N0 := Fr.nil n0
  refine Goes.to (congrArg T0.setTop (ef_6r m o1)) ?_
  have K00 := Keep.refl h0 []
  refine g_iconst C X0 d6_0 1 (v := 0) rfl ?_
  refine g_istoreN C X0 d6_1 2 (w := 0) rfl (ls' := #[rv o1, iv 0, uu]) rfl ?_
  refine g_aloadN C X0 d6_2 3 rfl rfl ?_
  refine g_callV0 C X0 (b_8 hw) F0 d6_3 [] [] 0 (rm7_1 hw Z0 F0 F1 F2 F3 F4 hcs) N0 pd_6 e0 6 (fun T1 _ X1 N1 e1 => ?_)
  refine g_istoreN C X1 d6_6 7 (w := 1) rfl (ls' := #[rv o1, iv 0, iv 1]) rfl ?_
  refine g_iloadN C X1 d6_7 8 rfl ?_
  refine g_iloadN C X1 d6_8 9 rfl ?_
  refine g_icmp_ge C X1 d6_9 29 12 (fun hc9 => absurd hc9 (by decide)) (fun hc9 => ?_)
  refine g_aloadN C X1 d6_12 13 rfl rfl ?_
  refine g_iloadN C X1 d6_13 14 rfl ?_
  refine g_callV0 C X1 (b_10 hw) F0 d6_14 [(.int 0)] [] 0 (rm16_1_0 hw Z0 F0 F1 F2 F3 F4 F5 hcs hwf) N1 pd_9 e1 17 (fun T2 _ X2 N2 e2 => ?_)
  refine g_callS0 C X2 (b_11 hw) d6_17 [(.int (own_ch c1))] [] 0 (rm21 hw Z0) N2 pd_10 e2 20 (fun T3 _ X3 N3 e3 => ?_)
  refine g_if_eq C X3 d6_20 29 23 (fun hc20 => absurd hc20 hs1) (fun hc20 => ?_)
  refine g_iinc C X3 d6_23 26 rfl (w := 1) rfl (ls' := #[rv o1, iv 1, iv 1]) rfl ?_
  refine g_goto C X3 d6_26 7 ?_
  refine g_iloadN C X3 d6_7 8 rfl ?_
  refine g_iloadN C X3 d6_8 9 rfl ?_
  refine g_icmp_ge C X3 d6_9 29 12 (fun hc9 => ?_) (fun hc9 => absurd hc9 (by decide))
  refine g_iloadN C X3 d6_29 30 rfl ?_
  refine g_iloadN C X3 d6_30 31 rfl ?_
  refine g_icmp_le C X3 d6_31 53 34 (fun hc31 => ?_) (fun hc31 => absurd hc31 (by decide))
  refine g_aloadN C X3 d6_53 54 rfl rfl ?_
  refine g_iloadN C X3 d6_54 55 rfl ?_
  refine g_iloadN C X3 d6_55 56 rfl ?_
  refine g_callVH C X3 hS0 (Nat.zero_le _) hEL H0_ (w_46 hw) (w_47 hw) (notFace_of_selects (args := #[]) (mvT C.2.1 (w_49 hw))) (w_49 hw) (w_48 hw) (w_50 hw) (w_8 hw) F0 d6_56 [(.int 1), (.int 1)] [] 0 (rm9_1_1_1 hw Z0 hEL F0 F1 F2 F3 F4 F5 hcs hwf) pd_8 e3 59 (fun u4 T4 L4 C4 X4 hQ4 hS4 A4 => ?_)
  obtain ⟨o34, o44, kd34, rfl, Nq4, Kq4, q4_0, q4_1, q4_2, q4_3⟩ := hQ4
  have N4 := Fr.app N3 Nq4
  have H_4 := A4.1
  have R_4 := R0_.trans A4
  have K4 := K00.trans Kq4 all0
  refine ret1 ?_
  exact g_retAH C4 X4 K hS4 (Nat.le_refl _) hEL H_4 R_4 rfl rfl rfl d6_59 (by decide) (by decide) rfl ⟨o34, o44, kd34, rfl, N4, K4, q4_0, q4_1, q4_2, q4_3⟩
def Q22_2_2_0 (Z : State) (o1 : Addr) (h0 : Heap) (n0 : Nat) (v : Option Value) (h : Heap) (L : List Loc) : Prop := ∃ (o3 : Addr) (o4 : Addr) (kd3 : ClassId), v = some (.ref o3) ∧ Fr n0 L ∧ Keep h0 h [] ∧ OEs Z h o3 ∧ OFv Z h o3 (.ref o4) ∧ OFc Z h o3 ∧ Arv Z h o4 kd3 .byte 0 [] (.int 0)
theorem rm22_2_2_0 {o1 : Addr} (hw : OwnW a0 Z) (Z0 : n0 ≤ h0.size) (hEL : EW Z a0 EL) : OwnMFH l Z EL y22 jdk_43_method_47_code 3 (some (.object "java/lang/String")) ws ⟨0, 2, 4, 0⟩ #[(.ref o1), (.int 2), (.int 0)] h0 (Q22_2_2_0 Z o1 h0 n0) := by
  refine boH (plainFor_of_name pn_18) ?_
  intro p e s m below meth c T0 G C hnm hnamed X0 e0 hh0 hS0 H0_ R0_ K
  have N0 := Fr.nil n0
  refine Goes.to (congrArg T0.setTop (ef_22rii m o1 (2 : Int32) (0 : Int32))) ?_
  have K00 := Keep.refl h0 []
  refine g_iloadN C X0 d22_0 1 rfl ?_
  refine g_if_ne C X0 d22_1 7 4 (fun hc1 => absurd hc1 (by decide)) (fun hc1 => ?_)
  refine g_ldcCH C X0 (n := 0) (z := (0 : Int32)) (vs := []) (hw _ (List.mem_of_getElem? (i := 122) rfl)) (strAtoms hw) e0 hS0 (Nat.zero_le _) hEL (by decide) H0_ ⟨by decide, rfl⟩ (by decide) rfl d22_4 6 (by decide) (by decide) (by decide) (by decide) (fun b1 T1 h1 k1 bb1 ki1 C1 X1 e1 E1 hS1 hk1 fe1 fc1 fv1 fa1 A1 sn1 => ?_)
  have H_1 := A1.1
  have R_1 := R0_.trans A1
  have K1 := K00.ext E1
  exact g_retAH C1 X1 K hS1 hk1 hEL H_1 R_1 rfl rfl rfl d22_6 (by decide) (by decide) e1 ⟨b1, bb1, ki1, rfl, N0, K1, fe1, fv1, fc1, fa1⟩
def Q9_2_2_2 (Z : State) (o1 : Addr) (o2 : Addr) (kd1 : ClassId) (c1 : Int32) (c2 : Int32) (cs1 : Int32) (wf1 : Value) (h0 : Heap) (n0 : Nat) (v : Option Value) (h : Heap) (L : List Loc) : Prop := ∃ (o3 : Addr) (o4 : Addr) (kd3 : ClassId), v = some (.ref o3) ∧ Fr n0 L ∧ Keep h0 h [] ∧ OEs Z h o3 ∧ OFv Z h o3 (.ref o4) ∧ OFc Z h o3 ∧ Arv Z h o4 kd3 .byte 0 [] (.int 0)
theorem rm9_2_2_2 {o1 o2 : Addr} {kd1 : ClassId} {c1 c2 cs1 : Int32} {wf1 : Value} (hw : OwnW a0 Z) (Z0 : n0 ≤ h0.size) (hEL : EW Z a0 EL) (F0 : OEs Z h0 o1) (F1 : OFv Z h0 o1 (.ref o2)) (F2 : OFc Z h0 o1) (F3 : Arv Z h0 o2 kd1 .byte 2 [(.int c1), (.int c2)] (.int 0)) (F4 : OSc Z h0 cs1) (F5 : OSf Z h0 wf1) (hcs : ¬ cs1 = (0 : Int32)) (hwf : wf1.isRef = true) : OwnMFH l Z EL y9 jdk_42_method_92_code 5 (some (.object "java/lang/String")) ws ⟨2, 2, 4, 29⟩ #[(.ref o1), (.int 2), (.int 2)] h0 (Q9_2_2_2 Z o1 o2 kd1 c1 c2 cs1 wf1 h0 n0) := by
  refine boH (plainFor_of_name pn_2) ?_
  intro p e s m below meth c T0 G C hnm hnamed X0 e0 hh0 hS0 H0_ R0_ K
  have N0 := Fr.nil n0
  refine Goes.to (congrArg T0.setTop (ef_9rii m o1 (2 : Int32) (2 : Int32))) ?_
  have K00 := Keep.refl h0 []
  refine g_aloadN C X0 d9_0 1 rfl rfl ?_
  refine g_callV0 C X0 (b_6 hw) F0 d9_1 [] [] 0 (rm7_2 hw Z0 F0 F1 F2 F3 F4 hcs) N0 pd_6 e0 4 (fun T1 _ X1 N1 e1 => ?_)
  refine g_istoreN C X1 d9_4 5 (w := 2) rfl (ls' := #[rv o1, iv 2, iv 2, iv 2, uu]) rfl ?_
  refine g_iloadN C X1 d9_5 6 rfl ?_
  refine g_iloadN C X1 d9_6 7 rfl ?_
  refine g_iloadN C X1 d9_7 8 rfl ?_
  refine g_callSn C X1 (b_7 hw) d9_8 [(.int 2), (.int 2), (.int 2)] [] 0 (rm10 hw Z0 F5 hwf (by decide) (by decide) (by decide)) N1 pd_7 e1 11 (fun T2 _ X2 N2 e2 => ?_)
  refine g_iloadN C X2 d9_11 12 rfl ?_
  refine g_if_ne C X2 d9_12 22 15 (fun hc12 => ?_) (fun hc12 => absurd hc12 (by decide))
  refine g_iloadN C X2 d9_22 23 rfl ?_
  refine g_iloadN C X2 d9_23 24 rfl ?_
  refine g_isub C X2 d9_24 25 ?_
  rw [show (2 : Int32) - 2 = 0 from by decide]
  refine g_istore C X2 d9_25 27 (w := 0) rfl (ls' := #[rv o1, iv 2, iv 2, iv 2, iv 0]) rfl ?_
  refine g_aloadN C X2 d9_27 28 rfl rfl ?_
  refine g_callV0 C X2 (b_2 hw) F0 d9_28 [] [] 0 (rm17 hw Z0 F2 F4 hcs) N2 pd_2 e2 31 (fun T3 _ X3 N3 e3 => ?_)
  refine g_if_eq C X3 d9_31 47 34 (fun hc31 => absurd hc31 (by decide)) (fun hc31 => ?_)
  refine g_aloadN C X3 d9_34 35 rfl rfl ?_
  refine g_getF C X3 (w_25 hw) Via.refl e3 F1 d9_35 38 (fun T4 X4 e4 => ?_)
  refine g_iloadN C X4 d9_38 39 rfl ?_
  refine g_iload C X4 d9_39 41 rfl ?_
  refine g_callSH C X4 hS0 (Nat.zero_le _) hEL H0_ (w_98 hw) (w_99 hw) (w_86 hw) (w_100 hw) d9_41 [(.ref o2), (.int 2), (.int 0)] [] 0 (rm22_2_2_0 hw Z0 hEL ) pd_14 e4 44 (fun u5 T5 L5 C5 X5 hQ5 hS5 A5 => ?_)
  obtain ⟨o35, o45, kd35, rfl, Nq5, Kq5, q5_0, q5_1, q5_2, q5_3⟩ := hQ5
  have N5 := Fr.app N3 Nq5
  have H_5 := A5.1
  have R_5 := R0_.trans A5
  have K5 := K00.trans Kq5 all0
  refine ret1 ?_
  refine g_goto C5 X5 d9_44 57 ?_
  exact g_retAH C5 X5 K hS5 (Nat.le_refl _) hEL H_5 R_5 rfl rfl rfl d9_57 (by decide) (by decide) rfl ⟨o35, o45, kd35, rfl, N5, K5, q5_0, q5_1, q5_2, q5_3⟩
def Q6_2_2_2 (Z : State) (o1 : Addr) (o2 : Addr) (kd1 : ClassId) (c1 : Int32) (c2 : Int32) (cs1 : Int32) (wf1 : Value) (h0 : Heap) (n0 : Nat) (v : Option Value) (h : Heap) (L : List Loc) : Prop := ∃ (o3 : Addr) (o4 : Addr) (kd3 : ClassId), v = some (.ref o3) ∧ Fr n0 L ∧ Keep h0 h [] ∧ OEs Z h o3 ∧ OFv Z h o3 (.ref o4) ∧ OFc Z h o3 ∧ Arv Z h o4 kd3 .byte 0 [] (.int 0)
theorem rm6_2_2_2 {o1 o2 : Addr} {kd1 : ClassId} {c1 c2 cs1 : Int32} {wf1 : Value} (hw : OwnW a0 Z) (Z0 : n0 ≤ h0.size) (hEL : EW Z a0 EL) (F0 : OEs Z h0 o1) (F1 : OFv Z h0 o1 (.ref o2)) (F2 : OFc Z h0 o1) (F3 : Arv Z h0 o2 kd1 .byte 2 [(.int c1), (.int c2)] (.int 0)) (F4 : OSc Z h0 cs1) (F5 : OSf Z h0 wf1) (hcs : ¬ cs1 = (0 : Int32)) (hwf : wf1.isRef = true) (hs1 : ¬ fIs (own_ch c1) = (0 : Int32)) (hs2 : ¬ fIs (own_ch c2) = (0 : Int32)) : OwnMFH l Z EL y6 prog_35_method_2_code 3 (some (.object "java/lang/String")) ws ⟨4, 2, 4, 53⟩ #[(.ref o1)] h0 (Q6_2_2_2 Z o1 o2 kd1 c1 c2 cs1 wf1 h0 n0) := by
  refine boH (plainFor_of_name pn_6) ?_
  intro p e s m below meth c T0 G C hnm hnamed X0 e0 hh0 hS0 H0_ R0_ K
  have N0 := Fr.nil n0
  refine Goes.to (congrArg T0.setTop (ef_6r m o1)) ?_
  have K00 := Keep.refl h0 []
  refine g_iconst C X0 d6_0 1 (v := 0) rfl ?_
  refine g_istoreN C X0 d6_1 2 (w := 0) rfl (ls' := #[rv o1, iv 0, uu]) rfl ?_
  refine g_aloadN C X0 d6_2 3 rfl rfl ?_
  refine g_callV0 C X0 (b_8 hw) F0 d6_3 [] [] 0 (rm7_2 hw Z0 F0 F1 F2 F3 F4 hcs) N0 pd_6 e0 6 (fun T1 _ X1 N1 e1 => ?_)
  refine g_istoreN C X1 d6_6 7 (w := 2) rfl (ls' := #[rv o1, iv 0, iv 2]) rfl ?_
  refine g_iloadN C X1 d6_7 8 rfl ?_
  refine g_iloadN C X1 d6_8 9 rfl ?_
  refine g_icmp_ge C X1 d6_9 29 12 (fun hc9 => absurd hc9 (by decide)) (fun hc9 => ?_)
  refine g_aloadN C X1 d6_12 13 rfl rfl ?_
  refine g_iloadN C X1 d6_13 14 rfl ?_
  refine g_callV0 C X1 (b_10 hw) F0 d6_14 [(.int 0)] [] 0 (rm16_2_0 hw Z0 F0 F1 F2 F3 F4 F5 hcs hwf) N1 pd_9 e1 17 (fun T2 _ X2 N2 e2 => ?_)
  refine g_callS0 C X2 (b_11 hw) d6_17 [(.int (own_ch c1))] [] 0 (rm21 hw Z0) N2 pd_10 e2 20 (fun T3 _ X3 N3 e3 => ?_)
  refine g_if_eq C X3 d6_20 29 23 (fun hc20 => absurd hc20 hs1) (fun hc20 => ?_)
  refine g_iinc C X3 d6_23 26 rfl (w := 1) rfl (ls' := #[rv o1, iv 1, iv 2]) rfl ?_
  refine g_goto C X3 d6_26 7 ?_
  refine g_iloadN C X3 d6_7 8 rfl ?_
  refine g_iloadN C X3 d6_8 9 rfl ?_
  refine g_icmp_ge C X3 d6_9 29 12 (fun hc9 => absurd hc9 (by decide)) (fun hc9 => ?_)
  refine g_aloadN C X3 d6_12 13 rfl rfl ?_
  refine g_iloadN C X3 d6_13 14 rfl ?_
  refine g_callV0 C X3 (b_10 hw) F0 d6_14 [(.int 1)] [] 0 (rm16_2_1 hw Z0 F0 F1 F2 F3 F4 F5 hcs hwf) N3 pd_9 e3 17 (fun T4 _ X4 N4 e4 => ?_)
  refine g_callS0 C X4 (b_11 hw) d6_17 [(.int (own_ch c2))] [] 0 (rm21 hw Z0) N4 pd_10 e4 20 (fun T5 _ X5 N5 e5 => ?_)
  refine g_if_eq C X5 d6_20 29 23 (fun hc20 => absurd hc20 hs2) (fun hc20 => ?_)
  refine g_iinc C X5 d6_23 26 rfl (w := 2) rfl (ls' := #[rv o1, iv 2, iv 2]) rfl ?_
  refine g_goto C X5 d6_26 7 ?_
  refine g_iloadN C X5 d6_7 8 rfl ?_
  refine g_iloadN C X5 d6_8 9 rfl ?_
  refine g_icmp_ge C X5 d6_9 29 12 (fun hc9 => ?_) (fun hc9 => absurd hc9 (by decide))
  refine g_iloadN C X5 d6_29 30 rfl ?_
  refine g_iloadN C X5 d6_30 31 rfl ?_
  refine g_icmp_le C X5 d6_31 53 34 (fun hc31 => ?_) (fun hc31 => absurd hc31 (by decide))
  refine g_aloadN C X5 d6_53 54 rfl rfl ?_
  refine g_iloadN C X5 d6_54 55 rfl ?_
  refine g_iloadN C X5 d6_55 56 rfl ?_
  refine g_callVH C X5 hS0 (Nat.zero_le _) hEL H0_ (w_46 hw) (w_47 hw) (notFace_of_selects (args := #[]) (mvT C.2.1 (w_49 hw))) (w_49 hw) (w_48 hw) (w_50 hw) (w_8 hw) F0 d6_56 [(.int 2), (.int 2)] [] 0 (rm9_2_2_2 hw Z0 hEL F0 F1 F2 F3 F4 F5 hcs hwf) pd_8 e5 59 (fun u6 T6 L6 C6 X6 hQ6 hS6 A6 => ?_)
  obtain ⟨o36, o46, kd36, rfl, Nq6, Kq6, q6_0, q6_1, q6_2, q6_3⟩ := hQ6
  have N6 := Fr.app N5 Nq6
  have H_6 := A6.1
  have R_6 := R0_.trans A6
  have K6 := K00.trans Kq6 all0
  refine ret1 ?_
  exact g_retAH C6 X6 K hS6 (Nat.le_refl _) hEL H_6 R_6 rfl rfl rfl d6_59 (by decide) (by decide) rfl ⟨o36, o46, kd36, rfl, N6, K6, q6_0, q6_1, q6_2, q6_3⟩
def Q22_3_3_0 (Z : State) (o1 : Addr) (h0 : Heap) (n0 : Nat) (v : Option Value) (h : Heap) (L : List Loc) : Prop := ∃ (o3 : Addr) (o4 : Addr) (kd3 : ClassId), v = some (.ref o3) ∧ Fr n0 L ∧ Keep h0 h [] ∧ OEs Z h o3 ∧ OFv Z h o3 (.ref o4) ∧ OFc Z h o3 ∧ Arv Z h o4 kd3 .byte 0 [] (.int 0)
theorem rm22_3_3_0 {o1 : Addr} (hw : OwnW a0 Z) (Z0 : n0 ≤ h0.size) (hEL : EW Z a0 EL) : OwnMFH l Z EL y22 jdk_43_method_47_code 3 (some (.object "java/lang/String")) ws ⟨0, 2, 4, 0⟩ #[(.ref o1), (.int 3), (.int 0)] h0 (Q22_3_3_0 Z o1 h0 n0) := by
  refine boH (plainFor_of_name pn_18) ?_
  intro p e s m below meth c T0 G C hnm hnamed X0 e0 hh0 hS0 H0_ R0_ K
  have N0 := Fr.nil n0
  refine Goes.to (congrArg T0.setTop (ef_22rii m o1 (3 : Int32) (0 : Int32))) ?_
  have K00 := Keep.refl h0 []
  refine g_iloadN C X0 d22_0 1 rfl ?_
  refine g_if_ne C X0 d22_1 7 4 (fun hc1 => absurd hc1 (by decide)) (fun hc1 => ?_)
  refine g_ldcCH C X0 (n := 0) (z := (0 : Int32)) (vs := []) (hw _ (List.mem_of_getElem? (i := 122) rfl)) (strAtoms hw) e0 hS0 (Nat.zero_le _) hEL (by decide) H0_ ⟨by decide, rfl⟩ (by decide) rfl d22_4 6 (by decide) (by decide) (by decide) (by decide) (fun b1 T1 h1 k1 bb1 ki1 C1 X1 e1 E1 hS1 hk1 fe1 fc1 fv1 fa1 A1 sn1 => ?_)
  have H_1 := A1.1
  have R_1 := R0_.trans A1
  have K1 := K00.ext E1
  exact g_retAH C1 X1 K hS1 hk1 hEL H_1 R_1 rfl rfl rfl d22_6 (by decide) (by decide) e1 ⟨b1, bb1, ki1, rfl, N0, K1, fe1, fv1, fc1, fa1⟩
def Q9_3_3_3 (Z : State) (o1 : Addr) (o2 : Addr) (kd1 : ClassId) (c1 : Int32) (c2 : Int32) (c3 : Int32) (cs1 : Int32) (wf1 : Value) (h0 : Heap) (n0 : Nat) (v : Option Value) (h : Heap) (L : List Loc) : Prop := ∃ (o3 : Addr) (o4 : Addr) (kd3 : ClassId), v = some (.ref o3) ∧ Fr n0 L ∧ Keep h0 h [] ∧ OEs Z h o3 ∧ OFv Z h o3 (.ref o4) ∧ OFc Z h o3 ∧ Arv Z h o4 kd3 .byte 0 [] (.int 0)
theorem rm9_3_3_3 {o1 o2 : Addr} {kd1 : ClassId} {c1 c2 c3 cs1 : Int32} {wf1 : Value} (hw : OwnW a0 Z) (Z0 : n0 ≤ h0.size) (hEL : EW Z a0 EL) (F0 : OEs Z h0 o1) (F1 : OFv Z h0 o1 (.ref o2)) (F2 : OFc Z h0 o1) (F3 : Arv Z h0 o2 kd1 .byte 3 [(.int c1), (.int c2), (.int c3)] (.int 0)) (F4 : OSc Z h0 cs1) (F5 : OSf Z h0 wf1) (hcs : ¬ cs1 = (0 : Int32)) (hwf : wf1.isRef = true) : OwnMFH l Z EL y9 jdk_42_method_92_code 5 (some (.object "java/lang/String")) ws ⟨2, 2, 4, 29⟩ #[(.ref o1), (.int 3), (.int 3)] h0 (Q9_3_3_3 Z o1 o2 kd1 c1 c2 c3 cs1 wf1 h0 n0) := by
  refine boH (plainFor_of_name pn_2) ?_
  intro p e s m below meth c T0 G C hnm hnamed X0 e0 hh0 hS0 H0_ R0_ K
  have N0 := Fr.nil n0
  refine Goes.to (congrArg T0.setTop (ef_9rii m o1 (3 : Int32) (3 : Int32))) ?_
  have K00 := Keep.refl h0 []
  refine g_aloadN C X0 d9_0 1 rfl rfl ?_
  refine g_callV0 C X0 (b_6 hw) F0 d9_1 [] [] 0 (rm7_3 hw Z0 F0 F1 F2 F3 F4 hcs) N0 pd_6 e0 4 (fun T1 _ X1 N1 e1 => ?_)
  refine g_istoreN C X1 d9_4 5 (w := 3) rfl (ls' := #[rv o1, iv 3, iv 3, iv 3, uu]) rfl ?_
  refine g_iloadN C X1 d9_5 6 rfl ?_
  refine g_iloadN C X1 d9_6 7 rfl ?_
  refine g_iloadN C X1 d9_7 8 rfl ?_
  refine g_callSn C X1 (b_7 hw) d9_8 [(.int 3), (.int 3), (.int 3)] [] 0 (rm10 hw Z0 F5 hwf (by decide) (by decide) (by decide)) N1 pd_7 e1 11 (fun T2 _ X2 N2 e2 => ?_)
  refine g_iloadN C X2 d9_11 12 rfl ?_
  refine g_if_ne C X2 d9_12 22 15 (fun hc12 => ?_) (fun hc12 => absurd hc12 (by decide))
  refine g_iloadN C X2 d9_22 23 rfl ?_
  refine g_iloadN C X2 d9_23 24 rfl ?_
  refine g_isub C X2 d9_24 25 ?_
  rw [show (3 : Int32) - 3 = 0 from by decide]
  refine g_istore C X2 d9_25 27 (w := 0) rfl (ls' := #[rv o1, iv 3, iv 3, iv 3, iv 0]) rfl ?_
  refine g_aloadN C X2 d9_27 28 rfl rfl ?_
  refine g_callV0 C X2 (b_2 hw) F0 d9_28 [] [] 0 (rm17 hw Z0 F2 F4 hcs) N2 pd_2 e2 31 (fun T3 _ X3 N3 e3 => ?_)
  refine g_if_eq C X3 d9_31 47 34 (fun hc31 => absurd hc31 (by decide)) (fun hc31 => ?_)
  refine g_aloadN C X3 d9_34 35 rfl rfl ?_
  refine g_getF C X3 (w_25 hw) Via.refl e3 F1 d9_35 38 (fun T4 X4 e4 => ?_)
  refine g_iloadN C X4 d9_38 39 rfl ?_
  refine g_iload C X4 d9_39 41 rfl ?_
  refine g_callSH C X4 hS0 (Nat.zero_le _) hEL H0_ (w_98 hw) (w_99 hw) (w_86 hw) (w_100 hw) d9_41 [(.ref o2), (.int 3), (.int 0)] [] 0 (rm22_3_3_0 hw Z0 hEL ) pd_14 e4 44 (fun u5 T5 L5 C5 X5 hQ5 hS5 A5 => ?_)
  obtain ⟨o35, o45, kd35, rfl, Nq5, Kq5, q5_0, q5_1, q5_2, q5_3⟩ := hQ5
  have N5 := Fr.app N3 Nq5
  have H_5 := A5.1
  have R_5 := R0_.trans A5
  have K5 := K00.trans Kq5 all0
  refine ret1 ?_
  refine g_goto C5 X5 d9_44 57 ?_
  exact g_retAH C5 X5 K hS5 (Nat.le_refl _) hEL H_5 R_5 rfl rfl rfl d9_57 (by decide) (by decide) rfl ⟨o35, o45, kd35, rfl, N5, K5, q5_0, q5_1, q5_2, q5_3⟩
def Q6_3_3_3 (Z : State) (o1 : Addr) (o2 : Addr) (kd1 : ClassId) (c1 : Int32) (c2 : Int32) (c3 : Int32) (cs1 : Int32) (wf1 : Value) (h0 : Heap) (n0 : Nat) (v : Option Value) (h : Heap) (L : List Loc) : Prop := ∃ (o3 : Addr) (o4 : Addr) (kd3 : ClassId), v = some (.ref o3) ∧ Fr n0 L ∧ Keep h0 h [] ∧ OEs Z h o3 ∧ OFv Z h o3 (.ref o4) ∧ OFc Z h o3 ∧ Arv Z h o4 kd3 .byte 0 [] (.int 0)
theorem rm6_3_3_3 {o1 o2 : Addr} {kd1 : ClassId} {c1 c2 c3 cs1 : Int32} {wf1 : Value} (hw : OwnW a0 Z) (Z0 : n0 ≤ h0.size) (hEL : EW Z a0 EL) (F0 : OEs Z h0 o1) (F1 : OFv Z h0 o1 (.ref o2)) (F2 : OFc Z h0 o1) (F3 : Arv Z h0 o2 kd1 .byte 3 [(.int c1), (.int c2), (.int c3)] (.int 0)) (F4 : OSc Z h0 cs1) (F5 : OSf Z h0 wf1) (hcs : ¬ cs1 = (0 : Int32)) (hwf : wf1.isRef = true) (hs1 : ¬ fIs (own_ch c1) = (0 : Int32)) (hs2 : ¬ fIs (own_ch c2) = (0 : Int32)) (hs3 : ¬ fIs (own_ch c3) = (0 : Int32)) : OwnMFH l Z EL y6 prog_35_method_2_code 3 (some (.object "java/lang/String")) ws ⟨4, 2, 4, 53⟩ #[(.ref o1)] h0 (Q6_3_3_3 Z o1 o2 kd1 c1 c2 c3 cs1 wf1 h0 n0) := by
  refine boH (plainFor_of_name pn_6) ?_
  intro p e s m below meth c T0 G C hnm hnamed X0 e0 hh0 hS0 H0_ R0_ K
  have N0 := Fr.nil n0
  refine Goes.to (congrArg T0.setTop (ef_6r m o1)) ?_
  have K00 := Keep.refl h0 []
  refine g_iconst C X0 d6_0 1 (v := 0) rfl ?_
  refine g_istoreN C X0 d6_1 2 (w := 0) rfl (ls' := #[rv o1, iv 0, uu]) rfl ?_
  refine g_aloadN C X0 d6_2 3 rfl rfl ?_
  refine g_callV0 C X0 (b_8 hw) F0 d6_3 [] [] 0 (rm7_3 hw Z0 F0 F1 F2 F3 F4 hcs) N0 pd_6 e0 6 (fun T1 _ X1 N1 e1 => ?_)
  refine g_istoreN C X1 d6_6 7 (w := 3) rfl (ls' := #[rv o1, iv 0, iv 3]) rfl ?_
  refine g_iloadN C X1 d6_7 8 rfl ?_
  refine g_iloadN C X1 d6_8 9 rfl ?_
  refine g_icmp_ge C X1 d6_9 29 12 (fun hc9 => absurd hc9 (by decide)) (fun hc9 => ?_)
  refine g_aloadN C X1 d6_12 13 rfl rfl ?_
  refine g_iloadN C X1 d6_13 14 rfl ?_
  refine g_callV0 C X1 (b_10 hw) F0 d6_14 [(.int 0)] [] 0 (rm16_3_0 hw Z0 F0 F1 F2 F3 F4 F5 hcs hwf) N1 pd_9 e1 17 (fun T2 _ X2 N2 e2 => ?_)
  refine g_callS0 C X2 (b_11 hw) d6_17 [(.int (own_ch c1))] [] 0 (rm21 hw Z0) N2 pd_10 e2 20 (fun T3 _ X3 N3 e3 => ?_)
  refine g_if_eq C X3 d6_20 29 23 (fun hc20 => absurd hc20 hs1) (fun hc20 => ?_)
  refine g_iinc C X3 d6_23 26 rfl (w := 1) rfl (ls' := #[rv o1, iv 1, iv 3]) rfl ?_
  refine g_goto C X3 d6_26 7 ?_
  refine g_iloadN C X3 d6_7 8 rfl ?_
  refine g_iloadN C X3 d6_8 9 rfl ?_
  refine g_icmp_ge C X3 d6_9 29 12 (fun hc9 => absurd hc9 (by decide)) (fun hc9 => ?_)
  refine g_aloadN C X3 d6_12 13 rfl rfl ?_
  refine g_iloadN C X3 d6_13 14 rfl ?_
  refine g_callV0 C X3 (b_10 hw) F0 d6_14 [(.int 1)] [] 0 (rm16_3_1 hw Z0 F0 F1 F2 F3 F4 F5 hcs hwf) N3 pd_9 e3 17 (fun T4 _ X4 N4 e4 => ?_)
  refine g_callS0 C X4 (b_11 hw) d6_17 [(.int (own_ch c2))] [] 0 (rm21 hw Z0) N4 pd_10 e4 20 (fun T5 _ X5 N5 e5 => ?_)
  refine g_if_eq C X5 d6_20 29 23 (fun hc20 => absurd hc20 hs2) (fun hc20 => ?_)
  refine g_iinc C X5 d6_23 26 rfl (w := 2) rfl (ls' := #[rv o1, iv 2, iv 3]) rfl ?_
  refine g_goto C X5 d6_26 7 ?_
  refine g_iloadN C X5 d6_7 8 rfl ?_
  refine g_iloadN C X5 d6_8 9 rfl ?_
  refine g_icmp_ge C X5 d6_9 29 12 (fun hc9 => absurd hc9 (by decide)) (fun hc9 => ?_)
  refine g_aloadN C X5 d6_12 13 rfl rfl ?_
  refine g_iloadN C X5 d6_13 14 rfl ?_
  refine g_callV0 C X5 (b_10 hw) F0 d6_14 [(.int 2)] [] 0 (rm16_3_2 hw Z0 F0 F1 F2 F3 F4 F5 hcs hwf) N5 pd_9 e5 17 (fun T6 _ X6 N6 e6 => ?_)
  refine g_callS0 C X6 (b_11 hw) d6_17 [(.int (own_ch c3))] [] 0 (rm21 hw Z0) N6 pd_10 e6 20 (fun T7 _ X7 N7 e7 => ?_)
  refine g_if_eq C X7 d6_20 29 23 (fun hc20 => absurd hc20 hs3) (fun hc20 => ?_)
  refine g_iinc C X7 d6_23 26 rfl (w := 3) rfl (ls' := #[rv o1, iv 3, iv 3]) rfl ?_
  refine g_goto C X7 d6_26 7 ?_
  refine g_iloadN C X7 d6_7 8 rfl ?_
  refine g_iloadN C X7 d6_8 9 rfl ?_
  refine g_icmp_ge C X7 d6_9 29 12 (fun hc9 => ?_) (fun hc9 => absurd hc9 (by decide))
  refine g_iloadN C X7 d6_29 30 rfl ?_
  refine g_iloadN C X7 d6_30 31 rfl ?_
  refine g_icmp_le C X7 d6_31 53 34 (fun hc31 => ?_) (fun hc31 => absurd hc31 (by decide))
  refine g_aloadN C X7 d6_53 54 rfl rfl ?_
  refine g_iloadN C X7 d6_54 55 rfl ?_
  refine g_iloadN C X7 d6_55 56 rfl ?_
  refine g_callVH C X7 hS0 (Nat.zero_le _) hEL H0_ (w_46 hw) (w_47 hw) (notFace_of_selects (args := #[]) (mvT C.2.1 (w_49 hw))) (w_49 hw) (w_48 hw) (w_50 hw) (w_8 hw) F0 d6_56 [(.int 3), (.int 3)] [] 0 (rm9_3_3_3 hw Z0 hEL F0 F1 F2 F3 F4 F5 hcs hwf) pd_8 e7 59 (fun u8 T8 L8 C8 X8 hQ8 hS8 A8 => ?_)
  obtain ⟨o38, o48, kd38, rfl, Nq8, Kq8, q8_0, q8_1, q8_2, q8_3⟩ := hQ8
  have N8 := Fr.app N7 Nq8
  have H_8 := A8.1
  have R_8 := R0_.trans A8
  have K8 := K00.trans Kq8 all0
  refine ret1 ?_
  exact g_retAH C8 X8 K hS8 (Nat.le_refl _) hEL H_8 R_8 rfl rfl rfl d6_59 (by decide) (by decide) rfl ⟨o38, o48, kd38, rfl, N8, K8, q8_0, q8_1, q8_2, q8_3⟩
def Q22_4_4_0 (Z : State) (o1 : Addr) (h0 : Heap) (n0 : Nat) (v : Option Value) (h : Heap) (L : List Loc) : Prop := ∃ (o3 : Addr) (o4 : Addr) (kd3 : ClassId), v = some (.ref o3) ∧ Fr n0 L ∧ Keep h0 h [] ∧ OEs Z h o3 ∧ OFv Z h o3 (.ref o4) ∧ OFc Z h o3 ∧ Arv Z h o4 kd3 .byte 0 [] (.int 0)
theorem rm22_4_4_0 {o1 : Addr} (hw : OwnW a0 Z) (Z0 : n0 ≤ h0.size) (hEL : EW Z a0 EL) : OwnMFH l Z EL y22 jdk_43_method_47_code 3 (some (.object "java/lang/String")) ws ⟨0, 2, 4, 0⟩ #[(.ref o1), (.int 4), (.int 0)] h0 (Q22_4_4_0 Z o1 h0 n0) := by
  refine boH (plainFor_of_name pn_18) ?_
  intro p e s m below meth c T0 G C hnm hnamed X0 e0 hh0 hS0 H0_ R0_ K
  have N0 := Fr.nil n0
  refine Goes.to (congrArg T0.setTop (ef_22rii m o1 (4 : Int32) (0 : Int32))) ?_
  have K00 := Keep.refl h0 []
  refine g_iloadN C X0 d22_0 1 rfl ?_
  refine g_if_ne C X0 d22_1 7 4 (fun hc1 => absurd hc1 (by decide)) (fun hc1 => ?_)
  refine g_ldcCH C X0 (n := 0) (z := (0 : Int32)) (vs := []) (hw _ (List.mem_of_getElem? (i := 122) rfl)) (strAtoms hw) e0 hS0 (Nat.zero_le _) hEL (by decide) H0_ ⟨by decide, rfl⟩ (by decide) rfl d22_4 6 (by decide) (by decide) (by decide) (by decide) (fun b1 T1 h1 k1 bb1 ki1 C1 X1 e1 E1 hS1 hk1 fe1 fc1 fv1 fa1 A1 sn1 => ?_)
  have H_1 := A1.1
  have R_1 := R0_.trans A1
  have K1 := K00.ext E1
  exact g_retAH C1 X1 K hS1 hk1 hEL H_1 R_1 rfl rfl rfl d22_6 (by decide) (by decide) e1 ⟨b1, bb1, ki1, rfl, N0, K1, fe1, fv1, fc1, fa1⟩
def Q9_4_4_4 (Z : State) (o1 : Addr) (o2 : Addr) (kd1 : ClassId) (c1 : Int32) (c2 : Int32) (c3 : Int32) (c4 : Int32) (cs1 : Int32) (wf1 : Value) (h0 : Heap) (n0 : Nat) (v : Option Value) (h : Heap) (L : List Loc) : Prop := ∃ (o3 : Addr) (o4 : Addr) (kd3 : ClassId), v = some (.ref o3) ∧ Fr n0 L ∧ Keep h0 h [] ∧ OEs Z h o3 ∧ OFv Z h o3 (.ref o4) ∧ OFc Z h o3 ∧ Arv Z h o4 kd3 .byte 0 [] (.int 0)
theorem rm9_4_4_4 {o1 o2 : Addr} {kd1 : ClassId} {c1 c2 c3 c4 cs1 : Int32} {wf1 : Value} (hw : OwnW a0 Z) (Z0 : n0 ≤ h0.size) (hEL : EW Z a0 EL) (F0 : OEs Z h0 o1) (F1 : OFv Z h0 o1 (.ref o2)) (F2 : OFc Z h0 o1) (F3 : Arv Z h0 o2 kd1 .byte 4 [(.int c1), (.int c2), (.int c3), (.int c4)] (.int 0)) (F4 : OSc Z h0 cs1) (F5 : OSf Z h0 wf1) (hcs : ¬ cs1 = (0 : Int32)) (hwf : wf1.isRef = true) : OwnMFH l Z EL y9 jdk_42_method_92_code 5 (some (.object "java/lang/String")) ws ⟨2, 2, 4, 29⟩ #[(.ref o1), (.int 4), (.int 4)] h0 (Q9_4_4_4 Z o1 o2 kd1 c1 c2 c3 c4 cs1 wf1 h0 n0) := by
  refine boH (plainFor_of_name pn_2) ?_
  intro p e s m below meth c T0 G C hnm hnamed X0 e0 hh0 hS0 H0_ R0_ K
  have N0 := Fr.nil n0
  refine Goes.to (congrArg T0.setTop (ef_9rii m o1 (4 : Int32) (4 : Int32))) ?_
  have K00 := Keep.refl h0 []
  refine g_aloadN C X0 d9_0 1 rfl rfl ?_
  refine g_callV0 C X0 (b_6 hw) F0 d9_1 [] [] 0 (rm7_4 hw Z0 F0 F1 F2 F3 F4 hcs) N0 pd_6 e0 4 (fun T1 _ X1 N1 e1 => ?_)
  refine g_istoreN C X1 d9_4 5 (w := 4) rfl (ls' := #[rv o1, iv 4, iv 4, iv 4, uu]) rfl ?_
  refine g_iloadN C X1 d9_5 6 rfl ?_
  refine g_iloadN C X1 d9_6 7 rfl ?_
  refine g_iloadN C X1 d9_7 8 rfl ?_
  refine g_callSn C X1 (b_7 hw) d9_8 [(.int 4), (.int 4), (.int 4)] [] 0 (rm10 hw Z0 F5 hwf (by decide) (by decide) (by decide)) N1 pd_7 e1 11 (fun T2 _ X2 N2 e2 => ?_)
  refine g_iloadN C X2 d9_11 12 rfl ?_
  refine g_if_ne C X2 d9_12 22 15 (fun hc12 => ?_) (fun hc12 => absurd hc12 (by decide))
  refine g_iloadN C X2 d9_22 23 rfl ?_
  refine g_iloadN C X2 d9_23 24 rfl ?_
  refine g_isub C X2 d9_24 25 ?_
  rw [show (4 : Int32) - 4 = 0 from by decide]
  refine g_istore C X2 d9_25 27 (w := 0) rfl (ls' := #[rv o1, iv 4, iv 4, iv 4, iv 0]) rfl ?_
  refine g_aloadN C X2 d9_27 28 rfl rfl ?_
  refine g_callV0 C X2 (b_2 hw) F0 d9_28 [] [] 0 (rm17 hw Z0 F2 F4 hcs) N2 pd_2 e2 31 (fun T3 _ X3 N3 e3 => ?_)
  refine g_if_eq C X3 d9_31 47 34 (fun hc31 => absurd hc31 (by decide)) (fun hc31 => ?_)
  refine g_aloadN C X3 d9_34 35 rfl rfl ?_
  refine g_getF C X3 (w_25 hw) Via.refl e3 F1 d9_35 38 (fun T4 X4 e4 => ?_)
  refine g_iloadN C X4 d9_38 39 rfl ?_
  refine g_iload C X4 d9_39 41 rfl ?_
  refine g_callSH C X4 hS0 (Nat.zero_le _) hEL H0_ (w_98 hw) (w_99 hw) (w_86 hw) (w_100 hw) d9_41 [(.ref o2), (.int 4), (.int 0)] [] 0 (rm22_4_4_0 hw Z0 hEL ) pd_14 e4 44 (fun u5 T5 L5 C5 X5 hQ5 hS5 A5 => ?_)
  obtain ⟨o35, o45, kd35, rfl, Nq5, Kq5, q5_0, q5_1, q5_2, q5_3⟩ := hQ5
  have N5 := Fr.app N3 Nq5
  have H_5 := A5.1
  have R_5 := R0_.trans A5
  have K5 := K00.trans Kq5 all0
  refine ret1 ?_
  refine g_goto C5 X5 d9_44 57 ?_
  exact g_retAH C5 X5 K hS5 (Nat.le_refl _) hEL H_5 R_5 rfl rfl rfl d9_57 (by decide) (by decide) rfl ⟨o35, o45, kd35, rfl, N5, K5, q5_0, q5_1, q5_2, q5_3⟩
def Q6_4_4_4 (Z : State) (o1 : Addr) (o2 : Addr) (kd1 : ClassId) (c1 : Int32) (c2 : Int32) (c3 : Int32) (c4 : Int32) (cs1 : Int32) (wf1 : Value) (h0 : Heap) (n0 : Nat) (v : Option Value) (h : Heap) (L : List Loc) : Prop := ∃ (o3 : Addr) (o4 : Addr) (kd3 : ClassId), v = some (.ref o3) ∧ Fr n0 L ∧ Keep h0 h [] ∧ OEs Z h o3 ∧ OFv Z h o3 (.ref o4) ∧ OFc Z h o3 ∧ Arv Z h o4 kd3 .byte 0 [] (.int 0)
theorem rm6_4_4_4 {o1 o2 : Addr} {kd1 : ClassId} {c1 c2 c3 c4 cs1 : Int32} {wf1 : Value} (hw : OwnW a0 Z) (Z0 : n0 ≤ h0.size) (hEL : EW Z a0 EL) (F0 : OEs Z h0 o1) (F1 : OFv Z h0 o1 (.ref o2)) (F2 : OFc Z h0 o1) (F3 : Arv Z h0 o2 kd1 .byte 4 [(.int c1), (.int c2), (.int c3), (.int c4)] (.int 0)) (F4 : OSc Z h0 cs1) (F5 : OSf Z h0 wf1) (hcs : ¬ cs1 = (0 : Int32)) (hwf : wf1.isRef = true) (hs1 : ¬ fIs (own_ch c1) = (0 : Int32)) (hs2 : ¬ fIs (own_ch c2) = (0 : Int32)) (hs3 : ¬ fIs (own_ch c3) = (0 : Int32)) (hs4 : ¬ fIs (own_ch c4) = (0 : Int32)) : OwnMFH l Z EL y6 prog_35_method_2_code 3 (some (.object "java/lang/String")) ws ⟨4, 2, 4, 53⟩ #[(.ref o1)] h0 (Q6_4_4_4 Z o1 o2 kd1 c1 c2 c3 c4 cs1 wf1 h0 n0) := by
  refine boH (plainFor_of_name pn_6) ?_
  intro p e s m below meth c T0 G C hnm hnamed X0 e0 hh0 hS0 H0_ R0_ K
  have N0 := Fr.nil n0
  refine Goes.to (congrArg T0.setTop (ef_6r m o1)) ?_
  have K00 := Keep.refl h0 []
  refine g_iconst C X0 d6_0 1 (v := 0) rfl ?_
  refine g_istoreN C X0 d6_1 2 (w := 0) rfl (ls' := #[rv o1, iv 0, uu]) rfl ?_
  refine g_aloadN C X0 d6_2 3 rfl rfl ?_
  refine g_callV0 C X0 (b_8 hw) F0 d6_3 [] [] 0 (rm7_4 hw Z0 F0 F1 F2 F3 F4 hcs) N0 pd_6 e0 6 (fun T1 _ X1 N1 e1 => ?_)
  refine g_istoreN C X1 d6_6 7 (w := 4) rfl (ls' := #[rv o1, iv 0, iv 4]) rfl ?_
  refine g_iloadN C X1 d6_7 8 rfl ?_
  refine g_iloadN C X1 d6_8 9 rfl ?_
  refine g_icmp_ge C X1 d6_9 29 12 (fun hc9 => absurd hc9 (by decide)) (fun hc9 => ?_)
  refine g_aloadN C X1 d6_12 13 rfl rfl ?_
  refine g_iloadN C X1 d6_13 14 rfl ?_
  refine g_callV0 C X1 (b_10 hw) F0 d6_14 [(.int 0)] [] 0 (rm16_4_0 hw Z0 F0 F1 F2 F3 F4 F5 hcs hwf) N1 pd_9 e1 17 (fun T2 _ X2 N2 e2 => ?_)
  refine g_callS0 C X2 (b_11 hw) d6_17 [(.int (own_ch c1))] [] 0 (rm21 hw Z0) N2 pd_10 e2 20 (fun T3 _ X3 N3 e3 => ?_)
  refine g_if_eq C X3 d6_20 29 23 (fun hc20 => absurd hc20 hs1) (fun hc20 => ?_)
  refine g_iinc C X3 d6_23 26 rfl (w := 1) rfl (ls' := #[rv o1, iv 1, iv 4]) rfl ?_
  refine g_goto C X3 d6_26 7 ?_
  refine g_iloadN C X3 d6_7 8 rfl ?_
  refine g_iloadN C X3 d6_8 9 rfl ?_
  refine g_icmp_ge C X3 d6_9 29 12 (fun hc9 => absurd hc9 (by decide)) (fun hc9 => ?_)
  refine g_aloadN C X3 d6_12 13 rfl rfl ?_
  refine g_iloadN C X3 d6_13 14 rfl ?_
  refine g_callV0 C X3 (b_10 hw) F0 d6_14 [(.int 1)] [] 0 (rm16_4_1 hw Z0 F0 F1 F2 F3 F4 F5 hcs hwf) N3 pd_9 e3 17 (fun T4 _ X4 N4 e4 => ?_)
  refine g_callS0 C X4 (b_11 hw) d6_17 [(.int (own_ch c2))] [] 0 (rm21 hw Z0) N4 pd_10 e4 20 (fun T5 _ X5 N5 e5 => ?_)
  refine g_if_eq C X5 d6_20 29 23 (fun hc20 => absurd hc20 hs2) (fun hc20 => ?_)
  refine g_iinc C X5 d6_23 26 rfl (w := 2) rfl (ls' := #[rv o1, iv 2, iv 4]) rfl ?_
  refine g_goto C X5 d6_26 7 ?_
  refine g_iloadN C X5 d6_7 8 rfl ?_
  refine g_iloadN C X5 d6_8 9 rfl ?_
  refine g_icmp_ge C X5 d6_9 29 12 (fun hc9 => absurd hc9 (by decide)) (fun hc9 => ?_)
  refine g_aloadN C X5 d6_12 13 rfl rfl ?_
  refine g_iloadN C X5 d6_13 14 rfl ?_
  refine g_callV0 C X5 (b_10 hw) F0 d6_14 [(.int 2)] [] 0 (rm16_4_2 hw Z0 F0 F1 F2 F3 F4 F5 hcs hwf) N5 pd_9 e5 17 (fun T6 _ X6 N6 e6 => ?_)
  refine g_callS0 C X6 (b_11 hw) d6_17 [(.int (own_ch c3))] [] 0 (rm21 hw Z0) N6 pd_10 e6 20 (fun T7 _ X7 N7 e7 => ?_)
  refine g_if_eq C X7 d6_20 29 23 (fun hc20 => absurd hc20 hs3) (fun hc20 => ?_)
  refine g_iinc C X7 d6_23 26 rfl (w := 3) rfl (ls' := #[rv o1, iv 3, iv 4]) rfl ?_
  refine g_goto C X7 d6_26 7 ?_
  refine g_iloadN C X7 d6_7 8 rfl ?_
  refine g_iloadN C X7 d6_8 9 rfl ?_
  refine g_icmp_ge C X7 d6_9 29 12 (fun hc9 => absurd hc9 (by decide)) (fun hc9 => ?_)
  refine g_aloadN C X7 d6_12 13 rfl rfl ?_
  refine g_iloadN C X7 d6_13 14 rfl ?_
  refine g_callV0 C X7 (b_10 hw) F0 d6_14 [(.int 3)] [] 0 (rm16_4_3 hw Z0 F0 F1 F2 F3 F4 F5 hcs hwf) N7 pd_9 e7 17 (fun T8 _ X8 N8 e8 => ?_)
  refine g_callS0 C X8 (b_11 hw) d6_17 [(.int (own_ch c4))] [] 0 (rm21 hw Z0) N8 pd_10 e8 20 (fun T9 _ X9 N9 e9 => ?_)
  refine g_if_eq C X9 d6_20 29 23 (fun hc20 => absurd hc20 hs4) (fun hc20 => ?_)
  refine g_iinc C X9 d6_23 26 rfl (w := 4) rfl (ls' := #[rv o1, iv 4, iv 4]) rfl ?_
  refine g_goto C X9 d6_26 7 ?_
  refine g_iloadN C X9 d6_7 8 rfl ?_
  refine g_iloadN C X9 d6_8 9 rfl ?_
  refine g_icmp_ge C X9 d6_9 29 12 (fun hc9 => ?_) (fun hc9 => absurd hc9 (by decide))
  refine g_iloadN C X9 d6_29 30 rfl ?_
  refine g_iloadN C X9 d6_30 31 rfl ?_
  refine g_icmp_le C X9 d6_31 53 34 (fun hc31 => ?_) (fun hc31 => absurd hc31 (by decide))
  refine g_aloadN C X9 d6_53 54 rfl rfl ?_
  refine g_iloadN C X9 d6_54 55 rfl ?_
  refine g_iloadN C X9 d6_55 56 rfl ?_
  refine g_callVH C X9 hS0 (Nat.zero_le _) hEL H0_ (w_46 hw) (w_47 hw) (notFace_of_selects (args := #[]) (mvT C.2.1 (w_49 hw))) (w_49 hw) (w_48 hw) (w_50 hw) (w_8 hw) F0 d6_56 [(.int 4), (.int 4)] [] 0 (rm9_4_4_4 hw Z0 hEL F0 F1 F2 F3 F4 F5 hcs hwf) pd_8 e9 59 (fun u10 T10 L10 C10 X10 hQ10 hS10 A10 => ?_)
  obtain ⟨o310, o410, kd310, rfl, Nq10, Kq10, q10_0, q10_1, q10_2, q10_3⟩ := hQ10
  have N10 := Fr.app N9 Nq10
  have H_10 := A10.1
  have R_10 := R0_.trans A10
  have K10 := K00.trans Kq10 all0
  refine ret1 ?_
  exact g_retAH C10 X10 K hS10 (Nat.le_refl _) hEL H_10 R_10 rfl rfl rfl d6_59 (by decide) (by decide) rfl ⟨o310, o410, kd310, rfl, N10, K10, q10_0, q10_1, q10_2, q10_3⟩
theorem ef_3rriin (m : MethodId) (a1 : Addr) (a2 : Addr) (a3 : Int32) (a4 : Int32) : entryFrame m #[(.ref a1), (.ref a2), (.int a3), (.int a4), .null] 6 = mkF m 0 #[rv a1, rv a2, iv a3, iv a4, nv, uu] [] := by first | (simp [entryFrame, mkF, argsToLocals, Value.category, iv, rv, jv, nv, uu, sd]; done) | rfl
theorem d3_0 : decode jdk_42_method_149_code 0 = .ok (.aload_n 0, 1) := by decide +kernel
theorem d3_1 : decode jdk_42_method_149_code 1 = .ok (.invokespecial 1, 3) := by decide +kernel
theorem d3_4 : decode jdk_42_method_149_code 4 = .ok (.iload_n 3, 1) := by decide +kernel
theorem d3_5 : decode jdk_42_method_149_code 5 = .ok (.ifCond .ne 22, 3) := by decide +kernel
theorem d3_8 : decode jdk_42_method_149_code 8 = .ok (.aload_n 0, 1) := by decide +kernel
theorem d3_9 : decode jdk_42_method_149_code 9 = .ok (.ldc 7, 2) := by decide +kernel
theorem d3_11 : decode jdk_42_method_149_code 11 = .ok (.getfield 9, 3) := by decide +kernel
theorem d3_14 : decode jdk_42_method_149_code 14 = .ok (.putfield 9, 3) := by decide +kernel
theorem d3_17 : decode jdk_42_method_149_code 17 = .ok (.aload_n 0, 1) := by decide +kernel
theorem d3_18 : decode jdk_42_method_149_code 18 = .ok (.ldc 7, 2) := by decide +kernel
theorem d3_20 : decode jdk_42_method_149_code 20 = .ok (.getfield 15, 3) := by decide +kernel
theorem d3_23 : decode jdk_42_method_149_code 23 = .ok (.putfield 15, 3) := by decide +kernel
theorem d3_26 : decode jdk_42_method_149_code 26 = .ok (.return_, 1) := by decide +kernel
def Q3_0 (Z : State) (o1 : Addr) (o2 : Addr) (kd1 : ClassId) (h0 : Heap) (n0 : Nat) (v : Option Value) (h : Heap) (L : List Loc) : Prop := ∃ (o3 : Addr) (kd3 : ClassId), v = none ∧ Fr n0 L ∧ Keep h0 h [o1] ∧ OEs Z h o1 ∧ OFv Z h o1 (.ref o3) ∧ OFc Z h o1 ∧ Arv Z h o3 kd3 .byte 0 [] (.int 0)
abbrev y3 : MethodName := (⟨"java/lang/String", "<init>", "([CIILjava/lang/Void;)V"⟩ : MethodName)
theorem rm3_0 {o1 o2 : Addr} {kd1 : ClassId} (hw : OwnW a0 Z) (Z0 : n0 ≤ h0.size) (hEL : EW Z a0 EL) (F0 : OEs Z h0 o1) (F1 : OFv Z h0 o1 .null) (F2 : OFc Z h0 o1) (F3 : Arv Z h0 o2 kd1 .char 0 [] (.int 0)) (gn_o1 : n0 ≤ o1) (ne_o1_o2 : o1 ≠ o2) : OwnMFH l Z EL y3 jdk_42_method_149_code 6 none ws ⟨1, 4, 8, 12⟩ #[(.ref o1), (.ref o2), (.int 0), (.int 0), .null] h0 (Q3_0 Z o1 o2 kd1 h0 n0) := by
  refine boH (plainFor_of_name pn_2) ?_
  intro p e s m below meth c T0 G C hnm hnamed X0 e0 hh0 hS0 H0_ R0_ K
  have N0 := Fr.nil n0
  refine Goes.to (congrArg T0.setTop (ef_3rriin m o1 o2 (0 : Int32) (0 : Int32))) ?_
  have K00 := Keep.refl h0 [o1]
  refine g_aloadN C X0 d3_0 1 rfl rfl ?_
  refine g_initO C X0 (w_16 hw) (w_17 hw) (w_18 hw) e0 rfl d3_1 4 (by decide) (W := 0) (Nat.le_of_eq rfl) (by decide) (fun T1 X1 e1 => ?_)
  refine g_iloadN C X1 d3_4 5 rfl ?_
  refine g_if_ne C X1 d3_5 27 8 (fun hc5 => absurd hc5 (by decide)) (fun hc5 => ?_)
  refine g_aloadN C X1 d3_8 9 rfl rfl ?_
  refine g_ldcCH C X1 (n := 0) (z := (0 : Int32)) (vs := []) (hw _ (List.mem_of_getElem? (i := 19) rfl)) (strAtoms hw) e1 hS0 (Nat.zero_le _) hEL (by decide) H0_ ⟨by decide, rfl⟩ (by decide) rfl d3_9 11 (by decide) (by decide) (by decide) (by decide) (fun b2 T2 h2 k2 bb2 ki2 C2 X2 e2 E2 hS2 hk2 fe2 fc2 fv2 fa2 A2 sn2 => ?_)
  have f3 := F0.ext E2
  have f4 := F1.ext E2
  have f5 := F2.ext E2
  have H_2 := A2.1
  have R_2 := R0_.trans A2
  have sf_o1_2 := A2.safe F0.lt (safe_null C.2.1.alike F1 F0)
  have K2 := K00.ext E2
  refine g_getF C2 X2 (w_25 hw) Via.refl e2 fv2 d3_11 14 (fun T7 X7 e7 => ?_)
  refine g_putF C2 X7 (w_25 hw) Via.refl e7 f4 f3 (Or.inr ⟨(w_21 hw), rfl, hnm⟩) (w_7 hw) (ty := (.array .byte)) (by decide) rfl rfl d3_14 17 (fun T8 h8 X8 e8 W8 => ?_)
  have f9 := f3.wr W8
  have f10 := f4.same W8
  have f11 := f5.other W8 (Or.inr (slot_ne (Or.inr (w_22 hw)) (Or.inr (w_21 hw)) (by decide) (t := .byte) (t' := (.array .byte)) (by decide) (by decide)))
  have f16 := fa2.other W8 (Ne.symm (sn2 _ sf_o1_2).2)
  have N8 := Fr.snoc X8 N0 gn_o1
  have hk8 := Nat.le_trans hk2 (Nat.le_of_eq W8.size.symm)
  have H_8 := H_2.wr W8 sf_o1_2
  have R_8 := R_2.trans (CHr.wr W8 sf_o1_2 H_2)
  have sf_o1_8 := Safe.wr W8 sf_o1_2 H_2 sf_o1_2
  have K8 := K2.wr W8 (Or.inl (List.mem_of_getElem? (i := 0) rfl))
  refine g_aloadN C2 X8 d3_17 18 rfl rfl ?_
  refine g_ldcCH C2 X8 (n := 0) (z := (0 : Int32)) (vs := []) (hw _ (List.mem_of_getElem? (i := 19) rfl)) (strAtoms hw) e8 hS2 hk8 hEL (by decide) H_8 ⟨by decide, rfl⟩ (by decide) rfl d3_18 20 (by decide) (by decide) (by decide) (by decide) (fun b17 T17 h17 k17 bb17 ki17 C17 X17 e17 E17 hS17 hk17 fe17 fc17 fv17 fa17 A17 sn17 => ?_)
  have f18 := f9.ext E17
  have f19 := f10.ext E17
  have f20 := f11.ext E17
  have f25 := f16.ext E17
  have H_17 := A17.1
  have R_17 := R_8.trans A17
  have sf_o1_17 := A17.safe f9.lt sf_o1_8
  have K17 := K8.ext E17
  refine g_getF C17 X17 (w_26 hw) Via.refl e17 fc17 d3_20 23 (fun T26 X26 e26 => ?_)
  refine g_putFN C17 X26 (w_26 hw) Via.refl e26 f20 f18 (Or.inr ⟨(w_22 hw), rfl, hnm⟩) (w_7 hw) (ty := .byte) (by decide) (v' := (.int 0)) (by decide) (by decide) d3_23 26 (fun T27 h27 X27 e27 W27 => ?_)
  have f28 := f18.wr W27
  have f29 := f19.other W27 (Or.inr (slot_ne (Or.inr (w_21 hw)) (Or.inr (w_22 hw)) (by decide) (t := (.array .byte)) (t' := .byte) (by decide) (by decide)))
  have f30 := f20.same W27
  have f35 := f25.other W27 (Ne.symm (sn2 _ sf_o1_2).2)
  have N27 := Fr.snoc X27 N8 gn_o1
  have hk27 := Nat.le_trans hk17 (Nat.le_of_eq W27.size.symm)
  have H_27 := H_17.wr W27 sf_o1_17
  have R_27 := R_17.trans (CHr.wr W27 sf_o1_17 H_17)
  have K27 := K17.wr W27 (Or.inl (List.mem_of_getElem? (i := 0) rfl))
  exact g_retVH C17 X27 K hS17 hk27 hEL H_27 R_27 d3_26 (by decide) (by decide) e27 ⟨bb2, ki2, rfl, N27, K27, f28, f29, f30, f35⟩
theorem ef_2rr (m : MethodId) (a1 : Addr) (a2 : Addr) : entryFrame m #[(.ref a1), (.ref a2)] 2 = mkF m 0 #[rv a1, rv a2] [] := by first | (simp [entryFrame, mkF, argsToLocals, Value.category, iv, rv, jv, nv, uu, sd]; done) | rfl
theorem d2_0 : decode jdk_42_method_3_code 0 = .ok (.aload_n 0, 1) := by decide +kernel
theorem d2_1 : decode jdk_42_method_3_code 1 = .ok (.aload_n 1, 1) := by decide +kernel
theorem d2_2 : decode jdk_42_method_3_code 2 = .ok (.iconst 0, 1) := by decide +kernel
theorem d2_3 : decode jdk_42_method_3_code 3 = .ok (.aload_n 1, 1) := by decide +kernel
theorem d2_4 : decode jdk_42_method_3_code 4 = .ok (.arraylength, 1) := by decide +kernel
theorem d2_5 : decode jdk_42_method_3_code 5 = .ok (.aconst_null, 1) := by decide +kernel
theorem d2_6 : decode jdk_42_method_3_code 6 = .ok (.invokespecial 27, 3) := by decide +kernel
theorem w_15 {Z : State} {a0 : Array Value} (hw : ∀ d ∈ tables_1, d.before a0 Z = true) : Jvm.Cond.before (Jvm.Cond.code ({ cls := "java/lang/String", name := "<init>", desc := "([CIILjava/lang/Void;)V" } : Jvm.MethodName) jdk_42_method_149_code (6 : Nat) (Option.none : Option Jvm.ClassFile.FieldType)) a0 Z = true := hw _ (List.mem_of_getElem? (i := 15) rfl)
theorem w_12 {Z : State} {a0 : Array Value} (hw : ∀ d ∈ tables_1, d.before a0 Z = true) : Jvm.Cond.before (Jvm.Cond.methodLink "java/lang/String" (27 : Nat) ({ cls := "java/lang/String", name := "<init>", desc := "([CIILjava/lang/Void;)V" } : Jvm.MethodName)) a0 Z = true := hw _ (List.mem_of_getElem? (i := 12) rfl)
theorem pd_15 : parseMethodDescriptor "([CIILjava/lang/Void;)V" = some ⟨[(.array .char), .int, .int, (.object "java/lang/Void")], none⟩ := by decide +kernel
theorem w_13 {Z : State} {a0 : Array Value} (hw : ∀ d ∈ tables_1, d.before a0 Z = true) : Jvm.Cond.before (Jvm.Cond.instanceMethod ({ cls := "java/lang/String", name := "<init>", desc := "([CIILjava/lang/Void;)V" } : Jvm.MethodName)) a0 Z = true := hw _ (List.mem_of_getElem? (i := 13) rfl)
theorem d2_9 : decode jdk_42_method_3_code 9 = .ok (.return_, 1) := by decide +kernel
def Q2_0 (Z : State) (o1 : Addr) (o2 : Addr) (kd1 : ClassId) (h0 : Heap) (n0 : Nat) (v : Option Value) (h : Heap) (L : List Loc) : Prop := ∃ (o3 : Addr) (kd3 : ClassId), v = none ∧ Fr n0 L ∧ Keep h0 h [o1] ∧ OEs Z h o1 ∧ OFv Z h o1 (.ref o3) ∧ OFc Z h o1 ∧ Arv Z h o3 kd3 .byte 0 [] (.int 0)
abbrev y2 : MethodName := (⟨"java/lang/String", "<init>", "([C)V"⟩ : MethodName)
theorem rm2_0 {o1 o2 : Addr} {kd1 : ClassId} (hw : OwnW a0 Z) (Z0 : n0 ≤ h0.size) (hEL : EW Z a0 EL) (F0 : OEs Z h0 o1) (F1 : OFv Z h0 o1 .null) (F2 : OFc Z h0 o1) (F3 : Arv Z h0 o2 kd1 .char 0 [] (.int 0)) (gn_o1 : n0 ≤ o1) (ne_o1_o2 : o1 ≠ o2) : OwnMFH l Z EL y2 jdk_42_method_3_code 2 none ws ⟨2, 4, 8, 29⟩ #[(.ref o1), (.ref o2)] h0 (Q2_0 Z o1 o2 kd1 h0 n0) := by
  refine boH (plainFor_of_name pn_2) ?_
  intro p e s m below meth c T0 G C hnm hnamed X0 e0 hh0 hS0 H0_ R0_ K
  have N0 := Fr.nil n0
  refine Goes.to (congrArg T0.setTop (ef_2rr m o1 o2)) ?_
  have K00 := Keep.refl h0 [o1]
  refine g_aloadN C X0 d2_0 1 rfl rfl ?_
  refine g_aloadN C X0 d2_1 2 rfl rfl ?_
  refine g_iconst C X0 d2_2 3 (v := 0) rfl ?_
  refine g_aloadN C X0 d2_3 4 rfl rfl ?_
  refine g_arraylength C X0 e0 F3 d2_4 5 ?_
  refine g_aconstNull C X0 d2_5 6 ?_
  refine g_callIH C X0 hS0 (Nat.zero_le _) hEL H0_ rfl (w_12 hw) (w_13 hw) (w_8 hw) (w_15 hw) d2_6 [(.ref o2), (.int 0), (.int 0), .null] [] 0 (rm3_0 hw Z0 hEL F0 F1 F2 F3 gn_o1 ne_o1_o2) pd_15 e0 9 (fun u1 T1 L1 C1 X1 hQ1 hS1 A1 => ?_)
  obtain ⟨o31, kd31, rfl, Nq1, Kq1, q1_0, q1_1, q1_2, q1_3⟩ := hQ1
  have N1 := Fr.app N0 Nq1
  have H_1 := A1.1
  have R_1 := R0_.trans A1
  have K1 := K00.trans Kq1 (allS (Or.inl (List.mem_of_getElem? (i := 0) rfl)) all0)
  refine ret0 ?_
  exact g_retVH C1 X1 K hS1 (Nat.le_refl _) hEL H_1 R_1 d2_9 (by decide) (by decide) rfl ⟨o31, kd31, rfl, N1, K1, q1_0, q1_1, q1_2, q1_3⟩
theorem ef_13ririi (m : MethodId) (a1 : Addr) (a2 : Int32) (a3 : Addr) (a4 : Int32) (a5 : Int32) : entryFrame m #[(.ref a1), (.int a2), (.ref a3), (.int a4), (.int a5)] 7 = mkF m 0 #[rv a1, iv a2, rv a3, iv a4, iv a5, uu, uu] [] := by first | (simp [entryFrame, mkF, argsToLocals, Value.category, iv, rv, jv, nv, uu, sd]; done) | rfl
theorem d13_0 : decode jdk_52_method_21_code 0 = .ok (.iconst 0, 1) := by decide +kernel
theorem d13_1 : decode jdk_52_method_21_code 1 = .ok (.istore 5, 2) := by decide +kernel
theorem d13_3 : decode jdk_52_method_21_code 3 = .ok (.iload 5, 2) := by decide +kernel
theorem d13_5 : decode jdk_52_method_21_code 5 = .ok (.iload 4, 2) := by decide +kernel
theorem d13_7 : decode jdk_52_method_21_code 7 = .ok (.if_icmp .ge 37, 3) := by decide +kernel
theorem d13_10 : decode jdk_52_method_21_code 10 = .ok (.aload_n 0, 1) := by decide +kernel
theorem d13_11 : decode jdk_52_method_21_code 11 = .ok (.iload_n 1, 1) := by decide +kernel
theorem d13_12 : decode jdk_52_method_21_code 12 = .ok (.caload, 1) := by decide +kernel
theorem d13_13 : decode jdk_52_method_21_code 13 = .ok (.istore 6, 2) := by decide +kernel
theorem d13_15 : decode jdk_52_method_21_code 15 = .ok (.iload 6, 2) := by decide +kernel
theorem d13_17 : decode jdk_52_method_21_code 17 = .ok (.sipush 255, 3) := by decide +kernel
theorem d13_20 : decode jdk_52_method_21_code 20 = .ok (.if_icmp .le 6, 3) := by decide +kernel
theorem d13_26 : decode jdk_52_method_21_code 26 = .ok (.aload_n 2, 1) := by decide +kernel
theorem d13_27 : decode jdk_52_method_21_code 27 = .ok (.iload_n 3, 1) := by decide +kernel
theorem d13_28 : decode jdk_52_method_21_code 28 = .ok (.iload 6, 2) := by decide +kernel
theorem d13_30 : decode jdk_52_method_21_code 30 = .ok (.i2b, 1) := by decide +kernel
theorem d13_31 : decode jdk_52_method_21_code 31 = .ok (.bastore, 1) := by decide +kernel
theorem d13_32 : decode jdk_52_method_21_code 32 = .ok (.iinc 1 1, 3) := by decide +kernel
theorem d13_35 : decode jdk_52_method_21_code 35 = .ok (.iinc 3 1, 3) := by decide +kernel
theorem d13_38 : decode jdk_52_method_21_code 38 = .ok (.iinc 5 1, 3) := by decide +kernel
theorem d13_41 : decode jdk_52_method_21_code 41 = .ok (.goto (-38), 3) := by decide +kernel
theorem d13_44 : decode jdk_52_method_21_code 44 = .ok (.iload 4, 2) := by decide +kernel
theorem d13_46 : decode jdk_52_method_21_code 46 = .ok (.ireturn, 1) := by decide +kernel
def Q13_1 (Z : State) (o1 : Addr) (o2 : Addr) (kd1 : ClassId) (kd2 : ClassId) (c1 : Int32) (h0 : Heap) (n0 : Nat) (v : Option Value) (h : Heap) (L : List Loc) : Prop := v = some (.int 1) ∧ Fr n0 L ∧ Keep h0 h [o2] ∧ Arv Z h o2 kd2 .byte 1 [(.int (nar .byte c1.toInt8.toInt32))] (.int 0)
abbrev y13 : MethodName := (⟨"java/lang/StringUTF16", "compress", "([CI[BII)I"⟩ : MethodName)
theorem pn_12 : plainName "java/lang/StringUTF16" = true := by first | (simp [plainName, overriddenIn]; done) | decide +kernel
theorem rm13_1 {o1 o2 : Addr} {kd1 kd2 : ClassId} {c1 : Int32} (hw : OwnW a0 Z) (Z0 : n0 ≤ h0.size) (F0 : Arv Z h0 o1 kd1 .char 1 [(.int c1)] (.int 0)) (F1 : Arv Z h0 o2 kd2 .byte 1 [(.int 0)] (.int 0)) (gn_o2 : n0 ≤ o2) (la1 : ¬ (255 : Int32) < c1) (ne_o1_o2 : o1 ≠ o2) : OwnMF l Z y13 jdk_52_method_21_code 7 (some .int) ws ⟨0, 0, 0, 0⟩ #[(.ref o1), (.int 0), (.ref o2), (.int 0), (.int 1)] h0 (Q13_1 Z o1 o2 kd1 kd2 c1 h0 n0) := by
  refine bo (plainFor_of_name pn_12) ?_
  intro p e s m below meth c T0 G C hnm hnamed X0 e0 K
  have N0 := Fr.nil n0
  refine Goes.to (congrArg T0.setTop (ef_13ririi m o1 (0 : Int32) o2 (0 : Int32) (1 : Int32))) ?_
  have K00 := Keep.refl h0 [o2]
  refine g_iconst C X0 d13_0 1 (v := 0) rfl ?_
  refine g_istore C X0 d13_1 3 (w := 0) rfl (ls' := #[rv o1, iv 0, rv o2, iv 0, iv 1, iv 0, uu]) rfl ?_
  refine g_iload C X0 d13_3 5 rfl ?_
  refine g_iload C X0 d13_5 7 rfl ?_
  refine g_icmp_ge C X0 d13_7 44 10 (fun hc7 => absurd hc7 (by decide)) (fun hc7 => ?_)
  refine g_aloadN C X0 d13_10 11 rfl rfl ?_
  refine g_iloadN C X0 d13_11 12 rfl ?_
  refine g_caload C X0 e0 F0 (by decide) (v := (.int c1)) rfl d13_12 13 ?_
  refine g_istore C X0 d13_13 15 (w := c1) rfl (ls' := #[rv o1, iv 0, rv o2, iv 0, iv 1, iv 0, iv c1]) rfl ?_
  refine g_iload C X0 d13_15 17 rfl ?_
  refine g_sipush C X0 d13_17 20 (v := 255) rfl ?_
  refine g_icmp_le C X0 d13_20 26 23 (fun hc20 => ?_) (fun hc20 => absurd hc20 la1)
  refine g_aloadN C X0 d13_26 27 rfl rfl ?_
  refine g_iloadN C X0 d13_27 28 rfl ?_
  refine g_iload C X0 d13_28 30 rfl ?_
  refine g_i2b C X0 d13_30 31 ?_
  refine g_bastore C X0 (i := 0) e0 F1 (by decide) rfl (Nat.le_of_ble_eq_true rfl) d13_31 32 (fun T1 h1 X1 e1 W1 A1 => ?_)
  have f3 : Arv Z h1 o2 kd2 .byte 1 [(.int (nar .byte c1.toInt8.toInt32))] (.int 0) := A1
  have N1 := Fr.snoc X1 N0 gn_o2
  have K1 := K00.wr W1 (Or.inl (List.mem_of_getElem? (i := 0) rfl))
  refine g_iinc C X1 d13_32 35 rfl (w := 1) rfl (ls' := #[rv o1, iv 1, rv o2, iv 0, iv 1, iv 0, iv c1]) rfl ?_
  refine g_iinc C X1 d13_35 38 rfl (w := 1) rfl (ls' := #[rv o1, iv 1, rv o2, iv 1, iv 1, iv 0, iv c1]) rfl ?_
  refine g_iinc C X1 d13_38 41 rfl (w := 1) rfl (ls' := #[rv o1, iv 1, rv o2, iv 1, iv 1, iv 1, iv c1]) rfl ?_
  refine g_goto C X1 d13_41 3 ?_
  refine g_iload C X1 d13_3 5 rfl ?_
  refine g_iload C X1 d13_5 7 rfl ?_
  refine g_icmp_ge C X1 d13_7 44 10 (fun hc7 => ?_) (fun hc7 => absurd hc7 (by decide))
  refine g_iload C X1 d13_44 46 rfl ?_
  exact g_retI C X1 K d13_46 (by decide) (by decide) e1 ⟨rfl, N1, K1, f3⟩
theorem ef_12rii (m : MethodId) (a1 : Addr) (a2 : Int32) (a3 : Int32) : entryFrame m #[(.ref a1), (.int a2), (.int a3)] 6 = mkF m 0 #[rv a1, iv a2, iv a3, uu, uu, uu] [] := by first | (simp [entryFrame, mkF, argsToLocals, Value.category, iv, rv, jv, nv, uu, sd]; done) | rfl
theorem d12_0 : decode jdk_52_method_16_code 0 = .ok (.iload_n 2, 1) := by decide +kernel
theorem d12_1 : decode jdk_52_method_16_code 1 = .ok (.newarray .byte, 2) := by decide +kernel
theorem d12_3 : decode jdk_52_method_16_code 3 = .ok (.astore_n 3, 1) := by decide +kernel
theorem d12_4 : decode jdk_52_method_16_code 4 = .ok (.aload_n 0, 1) := by decide +kernel
theorem d12_5 : decode jdk_52_method_16_code 5 = .ok (.iload_n 1, 1) := by decide +kernel
theorem d12_6 : decode jdk_52_method_16_code 6 = .ok (.aload_n 3, 1) := by decide +kernel
theorem d12_7 : decode jdk_52_method_16_code 7 = .ok (.iconst 0, 1) := by decide +kernel
theorem d12_8 : decode jdk_52_method_16_code 8 = .ok (.iload_n 2, 1) := by decide +kernel
theorem d12_9 : decode jdk_52_method_16_code 9 = .ok (.invokestatic 115, 3) := by decide +kernel
theorem w_67 {Z : State} {a0 : Array Value} (hw : ∀ d ∈ tables_1, d.before a0 Z = true) : Jvm.Cond.before (Jvm.Cond.code ({ cls := "java/lang/StringUTF16", name := "compress", desc := "([CI[BII)I" } : Jvm.MethodName) jdk_52_method_21_code (7 : Nat) (Option.some Jvm.ClassFile.FieldType.int)) a0 Z = true := hw _ (List.mem_of_getElem? (i := 67) rfl)
theorem w_63 {Z : State} {a0 : Array Value} (hw : ∀ d ∈ tables_1, d.before a0 Z = true) : Jvm.Cond.before (Jvm.Cond.initialized "java/lang/StringUTF16") a0 Z = true := hw _ (List.mem_of_getElem? (i := 63) rfl)
theorem w_65 {Z : State} {a0 : Array Value} (hw : ∀ d ∈ tables_1, d.before a0 Z = true) : Jvm.Cond.before (Jvm.Cond.methodLink "java/lang/StringUTF16" (115 : Nat) ({ cls := "java/lang/StringUTF16", name := "compress", desc := "([CI[BII)I" } : Jvm.MethodName)) a0 Z = true := hw _ (List.mem_of_getElem? (i := 65) rfl)
theorem pd_16 : parseMethodDescriptor "([CI[BII)I" = some ⟨[(.array .char), .int, (.array .byte), .int, .int], some .int⟩ := by decide +kernel
theorem w_66 {Z : State} {a0 : Array Value} (hw : ∀ d ∈ tables_1, d.before a0 Z = true) : Jvm.Cond.before (Jvm.Cond.static ({ cls := "java/lang/StringUTF16", name := "compress", desc := "([CI[BII)I" } : Jvm.MethodName)) a0 Z = true := hw _ (List.mem_of_getElem? (i := 66) rfl)
theorem d12_12 : decode jdk_52_method_16_code 12 = .ok (.istore 4, 2) := by decide +kernel
theorem d12_14 : decode jdk_52_method_16_code 14 = .ok (.iload 4, 2) := by decide +kernel
theorem d12_16 : decode jdk_52_method_16_code 16 = .ok (.iload_n 2, 1) := by decide +kernel
theorem d12_17 : decode jdk_52_method_16_code 17 = .ok (.if_icmp .eq 40, 3) := by decide +kernel
theorem d12_57 : decode jdk_52_method_16_code 57 = .ok (.aload_n 3, 1) := by decide +kernel
theorem d12_58 : decode jdk_52_method_16_code 58 = .ok (.areturn, 1) := by decide +kernel
def Q12_1 (Z : State) (o1 : Addr) (kd1 : ClassId) (c1 : Int32) (h0 : Heap) (n0 : Nat) (v : Option Value) (h : Heap) (L : List Loc) : Prop := ∃ (o3 : Addr) (kd3 : ClassId), v = some (.ref o3) ∧ Fr n0 L ∧ h0.size ≤ o3 ∧ Keep h0 h [] ∧ Arv Z h o3 kd3 .byte 1 [(.int (nar .byte c1.toInt8.toInt32))] (.int 0)
abbrev y12 : MethodName := (⟨"java/lang/StringUTF16", "compress", "([CII)[B"⟩ : MethodName)
theorem rm12_1 {o1 : Addr} {kd1 : ClassId} {c1 : Int32} (hw : OwnW a0 Z) (Z0 : n0 ≤ h0.size) (F0 : Arv Z h0 o1 kd1 .char 1 [(.int c1)] (.int 0)) (la1 : ¬ (255 : Int32) < c1) : OwnMF l Z y12 jdk_52_method_16_code 6 (some (.array .byte)) ws ⟨1, 1, 1, 18⟩ #[(.ref o1), (.int 0), (.int 1)] h0 (Q12_1 Z o1 kd1 c1 h0 n0) := by
  refine bo (plainFor_of_name pn_12) ?_
  intro p e s m below meth c T0 G C hnm hnamed X0 e0 K
  have N0 := Fr.nil n0
  refine Goes.to (congrArg T0.setTop (ef_12rii m o1 (0 : Int32) (1 : Int32))) ?_
  have K00 := Keep.refl h0 []
  refine g_iloadN C X0 d12_0 1 rfl ?_
  refine g_newA (aty := .byte) (n := (1 : Int32)) C X0 (cap := 1) (w_20 hw) e0 d12_1 3 (by decide) (by decide) (by decide) (by decide) (by decide) (fun T1 h1 b1 ki1 X1 e1 g1 E1 A1 => ?_)
  have n2 : o1 ≠ b1 := Nat.ne_of_lt (Nat.lt_of_lt_of_eq F0.lt g1.symm)
  have f3 := F0.ext E1
  have gn_b1 : n0 ≤ b1 := Nat.le_trans Z0 (Nat.le_of_eq g1.symm)
  have Z1 := Nat.le_trans Z0 E1.1
  have sz_b1 : h0.size ≤ b1 := Nat.le_trans K00.1 (Nat.le_of_eq g1.symm)
  have K1 := K00.ext E1
  have f4 : Arv Z h1 b1 ki1 .byte 1 [(.int 0)] (.int 0) := A1.pad (pad_rep [] (.int 0) 1)
  refine g_astoreN C X1 d12_3 4 rfl (ls' := #[rv o1, iv 0, iv 1, rv b1, uu, uu]) rfl ?_
  refine g_aloadN C X1 d12_4 5 rfl rfl ?_
  refine g_iloadN C X1 d12_5 6 rfl ?_
  refine g_aloadN C X1 d12_6 7 rfl rfl ?_
  refine g_iconst C X1 d12_7 8 (v := 0) rfl ?_
  refine g_iloadN C X1 d12_8 9 rfl ?_
  refine g_callS C X1 (w_65 hw) (w_66 hw) (w_63 hw) (w_67 hw) d12_9 [(.ref o1), (.int 0), (.ref b1), (.int 0), (.int 1)] [] 0 (rm13_1 hw Z1 f3 f4 gn_b1 la1 n2) pd_16 e1 12 (fun u5 T5 L5 X5 hQ5 => ?_)
  obtain ⟨rfl, Nq5, Kq5, q5_0⟩ := hQ5
  have N5 := Fr.app N0 Nq5
  have K5 := K1.trans Kq5 (allS (Or.inr sz_b1) all0)
  refine ret1 ?_
  refine g_istore C X5 d12_12 14 (w := 1) rfl (ls' := #[rv o1, iv 0, iv 1, rv b1, iv 1, uu]) rfl ?_
  refine g_iload C X5 d12_14 16 rfl ?_
  refine g_iloadN C X5 d12_16 17 rfl ?_
  refine g_icmp_eq C X5 d12_17 57 20 (fun hc17 => ?_) (fun hc17 => absurd hc17 (by decide))
  refine g_aloadN C X5 d12_57 58 rfl rfl ?_
  exact g_retA C X5 K rfl rfl rfl d12_58 (by decide) (by decide) rfl ⟨b1, ki1, rfl, N5, sz_b1, K5, q5_0⟩
theorem ef_14ri (m : MethodId) (a1 : Addr) (a2 : Int32) : entryFrame m #[(.ref a1), (.int a2)] 2 = mkF m 0 #[rv a1, iv a2] [] := by first | (simp [entryFrame, mkF, argsToLocals, Value.category, iv, rv, jv, nv, uu, sd]; done) | rfl
theorem d14_0 : decode jdk_52_method_15_code 0 = .ok (.iload_n 1, 1) := by decide +kernel
theorem d14_1 : decode jdk_52_method_15_code 1 = .ok (.aload_n 0, 1) := by decide +kernel
theorem d14_2 : decode jdk_52_method_15_code 2 = .ok (.arraylength, 1) := by decide +kernel
theorem d14_3 : decode jdk_52_method_15_code 3 = .ok (.isub, 1) := by decide +kernel
theorem d14_4 : decode jdk_52_method_15_code 4 = .ok (.bipush 31, 2) := by decide +kernel
theorem d14_6 : decode jdk_52_method_15_code 6 = .ok (.iushr, 1) := by decide +kernel
theorem d14_7 : decode jdk_52_method_15_code 7 = .ok (.i2b, 1) := by decide +kernel
theorem d14_8 : decode jdk_52_method_15_code 8 = .ok (.ireturn, 1) := by decide +kernel
abbrev y14 : MethodName := (⟨"java/lang/StringUTF16", "coderFromArrayLen", "([BI)B"⟩ : MethodName)
theorem rm14_1 {o1 : Addr} {kd1 : ClassId} {c1 : Int32} (hw : OwnW a0 Z) (Z0 : n0 ≤ h0.size) (F0 : Arv Z h0 o1 kd1 .byte 1 [(.int c1)] (.int 0)) : OwnMF l Z y14 jdk_52_method_15_code 2 (some .byte) ws ⟨0, 0, 0, 0⟩ #[(.ref o1), (.int 1)] h0 (OwnQ (some (.int 0)) h0 n0) := by
  refine bo (plainFor_of_name pn_12) ?_
  intro p e s m below meth c T0 G C hnm hnamed X0 e0 K
  have N0 := Fr.nil n0
  refine Goes.to (congrArg T0.setTop (ef_14ri m o1 (1 : Int32))) ?_
  refine g_iloadN C X0 d14_0 1 rfl ?_
  refine g_aloadN C X0 d14_1 2 rfl rfl ?_
  refine g_arraylength C X0 e0 F0 d14_2 3 ?_
  refine g_isub C X0 d14_3 4 ?_
  rw [show (1 : Int32) - 1 = 0 from by decide]
  refine g_bipush C X0 d14_4 6 (v := 31) rfl ?_
  refine g_iushr C X0 d14_6 7 ?_
  refine g_i2b C X0 d14_7 8 ?_
  exact g_retN C X0 K (by simp) d14_8 (by decide) (by decide) e0 ⟨(by decide), N0, rfl⟩
theorem d3_27 : decode jdk_42_method_149_code 27 = .ok (.getstatic 38, 3) := by decide +kernel
theorem d3_30 : decode jdk_42_method_149_code 30 = .ok (.ifCond .eq 28, 3) := by decide +kernel
theorem d3_33 : decode jdk_42_method_149_code 33 = .ok (.aload_n 1, 1) := by decide +kernel
theorem d3_34 : decode jdk_42_method_149_code 34 = .ok (.iload_n 2, 1) := by decide +kernel
theorem d3_35 : decode jdk_42_method_149_code 35 = .ok (.iload_n 3, 1) := by decide +kernel
theorem d3_36 : decode jdk_42_method_149_code 36 = .ok (.invokestatic 177, 3) := by decide +kernel
theorem w_64 {Z : State} {a0 : Array Value} (hw : ∀ d ∈ tables_1, d.before a0 Z = true) : Jvm.Cond.before (Jvm.Cond.code ({ cls := "java/lang/StringUTF16", name := "compress", desc := "([CII)[B" } : Jvm.MethodName) jdk_52_method_16_code (6 : Nat) (Option.some (Jvm.ClassFile.FieldType.array Jvm.ClassFile.FieldType.byte))) a0 Z = true := hw _ (List.mem_of_getElem? (i := 64) rfl)
theorem w_61 {Z : State} {a0 : Array Value} (hw : ∀ d ∈ tables_1, d.before a0 Z = true) : Jvm.Cond.before (Jvm.Cond.methodLink "java/lang/String" (177 : Nat) ({ cls := "java/lang/StringUTF16", name := "compress", desc := "([CII)[B" } : Jvm.MethodName)) a0 Z = true := hw _ (List.mem_of_getElem? (i := 61) rfl)
theorem pd_17 : parseMethodDescriptor "([CII)[B" = some ⟨[(.array .char), .int, .int], some (.array .byte)⟩ := by decide +kernel
theorem w_62 {Z : State} {a0 : Array Value} (hw : ∀ d ∈ tables_1, d.before a0 Z = true) : Jvm.Cond.before (Jvm.Cond.static ({ cls := "java/lang/StringUTF16", name := "compress", desc := "([CII)[B" } : Jvm.MethodName)) a0 Z = true := hw _ (List.mem_of_getElem? (i := 62) rfl)
theorem d3_39 : decode jdk_42_method_149_code 39 = .ok (.astore 5, 2) := by decide +kernel
theorem d3_41 : decode jdk_42_method_149_code 41 = .ok (.aload_n 0, 1) := by decide +kernel
theorem d3_42 : decode jdk_42_method_149_code 42 = .ok (.aload 5, 2) := by decide +kernel
theorem d3_44 : decode jdk_42_method_149_code 44 = .ok (.iload_n 3, 1) := by decide +kernel
theorem d3_45 : decode jdk_42_method_149_code 45 = .ok (.invokestatic 47, 3) := by decide +kernel
theorem w_70 {Z : State} {a0 : Array Value} (hw : ∀ d ∈ tables_1, d.before a0 Z = true) : Jvm.Cond.before (Jvm.Cond.code ({ cls := "java/lang/StringUTF16", name := "coderFromArrayLen", desc := "([BI)B" } : Jvm.MethodName) jdk_52_method_15_code (2 : Nat) (Option.some Jvm.ClassFile.FieldType.byte)) a0 Z = true := hw _ (List.mem_of_getElem? (i := 70) rfl)
theorem w_68 {Z : State} {a0 : Array Value} (hw : ∀ d ∈ tables_1, d.before a0 Z = true) : Jvm.Cond.before (Jvm.Cond.methodLink "java/lang/String" (47 : Nat) ({ cls := "java/lang/StringUTF16", name := "coderFromArrayLen", desc := "([BI)B" } : Jvm.MethodName)) a0 Z = true := hw _ (List.mem_of_getElem? (i := 68) rfl)
theorem pd_18 : parseMethodDescriptor "([BI)B" = some ⟨[(.array .byte), .int], some .byte⟩ := by decide +kernel
theorem w_69 {Z : State} {a0 : Array Value} (hw : ∀ d ∈ tables_1, d.before a0 Z = true) : Jvm.Cond.before (Jvm.Cond.static ({ cls := "java/lang/StringUTF16", name := "coderFromArrayLen", desc := "([BI)B" } : Jvm.MethodName)) a0 Z = true := hw _ (List.mem_of_getElem? (i := 69) rfl)
theorem b_14 (hw : OwnW a0 Z) : CallS "java/lang/String" 47 (⟨"java/lang/StringUTF16", "coderFromArrayLen", "([BI)B"⟩ : MethodName) jdk_52_method_15_code (2 : Nat) (Option.some Jvm.ClassFile.FieldType.byte) a0 Z := ⟨(w_68 hw), (w_69 hw), (w_63 hw), (w_70 hw)⟩
theorem d3_48 : decode jdk_42_method_149_code 48 = .ok (.putfield 15, 3) := by decide +kernel
theorem d3_51 : decode jdk_42_method_149_code 51 = .ok (.aload_n 0, 1) := by decide +kernel
theorem d3_52 : decode jdk_42_method_149_code 52 = .ok (.aload 5, 2) := by decide +kernel
theorem d3_54 : decode jdk_42_method_149_code 54 = .ok (.putfield 9, 3) := by decide +kernel
theorem d3_57 : decode jdk_42_method_149_code 57 = .ok (.return_, 1) := by decide +kernel
def Q3_1 (Z : State) (o1 : Addr) (o2 : Addr) (kd1 : ClassId) (c1 : Int32) (cs1 : Int32) (h0 : Heap) (n0 : Nat) (v : Option Value) (h : Heap) (L : List Loc) : Prop := ∃ (o3 : Addr) (kd3 : ClassId), v = none ∧ Fr n0 L ∧ h0.size ≤ o3 ∧ Keep h0 h [o1] ∧ OEs Z h o1 ∧ OFv Z h o1 (.ref o3) ∧ OFc Z h o1 ∧ Arv Z h o3 kd3 .byte 1 [(.int (nar .byte c1.toInt8.toInt32))] (.int 0)
theorem rm3_1 {o1 o2 : Addr} {kd1 : ClassId} {c1 cs1 : Int32} (hw : OwnW a0 Z) (Z0 : n0 ≤ h0.size) (F0 : OEs Z h0 o1) (F1 : OFv Z h0 o1 .null) (F2 : OFc Z h0 o1) (F3 : Arv Z h0 o2 kd1 .char 1 [(.int c1)] (.int 0)) (F4 : OSc Z h0 cs1) (gn_o1 : n0 ≤ o1) (la1 : ¬ (255 : Int32) < c1) (hcs : ¬ cs1 = (0 : Int32)) (ne_o1_o2 : o1 ≠ o2) : OwnMF l Z y3 jdk_42_method_149_code 6 none ws ⟨2, 1, 1, 35⟩ #[(.ref o1), (.ref o2), (.int 0), (.int 1), .null] h0 (Q3_1 Z o1 o2 kd1 c1 cs1 h0 n0) := by
  refine bo (plainFor_of_name pn_2) ?_
  intro p e s m below meth c T0 G C hnm hnamed X0 e0 K
  have N0 := Fr.nil n0
  refine Goes.to (congrArg T0.setTop (ef_3rriin m o1 o2 (0 : Int32) (1 : Int32))) ?_
  have K00 := Keep.refl h0 [o1]
  refine g_aloadN C X0 d3_0 1 rfl rfl ?_
  refine g_initO C X0 (w_16 hw) (w_17 hw) (w_18 hw) e0 rfl d3_1 4 (by decide) (W := 0) (Nat.le_of_eq rfl) (by decide) (fun T1 X1 e1 => ?_)
  refine g_iloadN C X1 d3_4 5 rfl ?_
  refine g_if_ne C X1 d3_5 27 8 (fun hc5 => ?_) (fun hc5 => absurd hc5 (by decide))
  refine g_getS C X1 (w_45 hw) Via.refl e1 F4 d3_27 30 (fun T2 X2 e2 => ?_)
  refine g_if_eq C X2 d3_30 58 33 (fun hc30 => absurd hc30 hcs) (fun hc30 => ?_)
  refine g_aloadN C X2 d3_33 34 rfl rfl ?_
  refine g_iloadN C X2 d3_34 35 rfl ?_
  refine g_iloadN C X2 d3_35 36 rfl ?_
  refine g_callS C X2 (w_61 hw) (w_62 hw) (w_63 hw) (w_64 hw) d3_36 [(.ref o2), (.int 0), (.int 1)] [] 0 (rm12_1 hw Z0 F3 la1) pd_17 e2 39 (fun u3 T3 L3 X3 hQ3 => ?_)
  obtain ⟨o33, kd33, rfl, Nq3, szo33, Kq3, q3_0⟩ := hQ3
  have N3 := Fr.app N0 Nq3
  have n4 : o1 ≠ o33 := Nat.ne_of_lt (Nat.lt_of_lt_of_le F0.lt szo33)
  have f6 := F0.keep Kq3
  have f7 := F1.keep Kq3 nin0
  have f8 := F2.keep Kq3 nin0
  have Z3 := Nat.le_trans Z0 Kq3.1
  have sz_o33 : h0.size ≤ o33 := Nat.le_trans K00.1 szo33
  have K3 := K00.trans Kq3 all0
  refine ret1 ?_
  refine g_astore C X3 d3_39 41 rfl (ls' := #[rv o1, rv o2, iv 0, iv 1, nv, rv o33]) rfl ?_
  refine g_aloadN C X3 d3_41 42 rfl rfl ?_
  refine g_aload C X3 d3_42 44 rfl rfl ?_
  refine g_iloadN C X3 d3_44 45 rfl ?_
  refine g_callS0 C X3 (b_14 hw) d3_45 [(.ref o33), (.int 1)] [(.ref o1)] 1 (rm14_1 hw Z3 q3_0) N3 pd_18 rfl 48 (fun T11 _ X11 N11 e11 => ?_)
  refine g_putFN C X11 (w_26 hw) Via.refl e11 f8 f6 (Or.inr ⟨(w_22 hw), rfl, hnm⟩) (w_7 hw) (ty := .byte) (by decide) (v' := (.int 0)) (by decide) (by decide) d3_48 51 (fun T12 h12 X12 e12 W12 => ?_)
  have f13 := f6.wr W12
  have f14 := f7.other W12 (Or.inr (slot_ne (Or.inr (w_21 hw)) (Or.inr (w_22 hw)) (by decide) (t := (.array .byte)) (t' := .byte) (by decide) (by decide)))
  have f15 := f8.same W12
  have f18 := q3_0.other W12 (Ne.symm n4)
  have N12 := Fr.snoc X12 N11 gn_o1
  have K12 := K3.wr W12 (Or.inl (List.mem_of_getElem? (i := 0) rfl))
  refine g_aloadN C X12 d3_51 52 rfl rfl ?_
  refine g_aload C X12 d3_52 54 rfl rfl ?_
  refine g_putF C X12 (w_25 hw) Via.refl e12 f14 f13 (Or.inr ⟨(w_21 hw), rfl, hnm⟩) (w_7 hw) (ty := (.array .byte)) (by decide) rfl rfl d3_54 57 (fun T19 h19 X19 e19 W19 => ?_)
  have f20 := f13.wr W19
  have f21 := f14.same W19
  have f22 := f15.other W19 (Or.inr (slot_ne (Or.inr (w_22 hw)) (Or.inr (w_21 hw)) (by decide) (t := .byte) (t' := (.array .byte)) (by decide) (by decide)))
  have f25 := f18.other W19 (Ne.symm n4)
  have N19 := Fr.snoc X19 N12 gn_o1
  have K19 := K12.wr W19 (Or.inl (List.mem_of_getElem? (i := 0) rfl))
  exact g_retV C X19 K d3_57 (by decide) (by decide) e19 ⟨o33, kd33, rfl, N19, sz_o33, K19, f20, f21, f22, f25⟩
def Q2_1 (Z : State) (o1 : Addr) (o2 : Addr) (kd1 : ClassId) (c1 : Int32) (cs1 : Int32) (h0 : Heap) (n0 : Nat) (v : Option Value) (h : Heap) (L : List Loc) : Prop := ∃ (o3 : Addr) (kd3 : ClassId), v = none ∧ Fr n0 L ∧ h0.size ≤ o3 ∧ Keep h0 h [o1] ∧ OEs Z h o1 ∧ OFv Z h o1 (.ref o3) ∧ OFc Z h o1 ∧ Arv Z h o3 kd3 .byte 1 [(.int (nar .byte c1.toInt8.toInt32))] (.int 0)
theorem rm2_1 {o1 o2 : Addr} {kd1 : ClassId} {c1 cs1 : Int32} (hw : OwnW a0 Z) (Z0 : n0 ≤ h0.size) (F0 : OEs Z h0 o1) (F1 : OFv Z h0 o1 .null) (F2 : OFc Z h0 o1) (F3 : Arv Z h0 o2 kd1 .char 1 [(.int c1)] (.int 0)) (F4 : OSc Z h0 cs1) (gn_o1 : n0 ≤ o1) (la1 : ¬ (255 : Int32) < c1) (hcs : ¬ cs1 = (0 : Int32)) (ne_o1_o2 : o1 ≠ o2) : OwnMF l Z y2 jdk_42_method_3_code 2 none ws ⟨3, 1, 1, 52⟩ #[(.ref o1), (.ref o2)] h0 (Q2_1 Z o1 o2 kd1 c1 cs1 h0 n0) := by
  refine bo (plainFor_of_name pn_2) ?_
  intro p e s m below meth c T0 G C hnm hnamed X0 e0 K
  have N0 := Fr.nil n0
  refine Goes.to (congrArg T0.setTop (ef_2rr m o1 o2)) ?_
  have K00 := Keep.refl h0 [o1]
  refine g_aloadN C X0 d2_0 1 rfl rfl ?_
  refine g_aloadN C X0 d2_1 2 rfl rfl ?_
  refine g_iconst C X0 d2_2 3 (v := 0) rfl ?_
  refine g_aloadN C X0 d2_3 4 rfl rfl ?_
  refine g_arraylength C X0 e0 F3 d2_4 5 ?_
  refine g_aconstNull C X0 d2_5 6 ?_
  refine g_callI C X0 rfl (w_12 hw) (w_13 hw) (w_8 hw) (w_15 hw) d2_6 [(.ref o2), (.int 0), (.int 1), .null] [] 0 (rm3_1 hw Z0 F0 F1 F2 F3 F4 gn_o1 la1 hcs ne_o1_o2) pd_15 e0 9 (fun u1 T1 L1 X1 hQ1 => ?_)
  obtain ⟨o31, kd31, rfl, Nq1, szo31, Kq1, q1_0, q1_1, q1_2, q1_3⟩ := hQ1
  have N1 := Fr.app N0 Nq1
  have sz_o31 : h0.size ≤ o31 := Nat.le_trans K00.1 szo31
  have K1 := K00.trans Kq1 (allS (Or.inl (List.mem_of_getElem? (i := 0) rfl)) all0)
  refine ret0 ?_
  exact g_retV C X1 K d2_9 (by decide) (by decide) rfl ⟨o31, kd31, rfl, N1, sz_o31, K1, q1_0, q1_1, q1_2, q1_3⟩
def Q13_2 (Z : State) (o1 : Addr) (o2 : Addr) (kd1 : ClassId) (kd2 : ClassId) (c1 : Int32) (c2 : Int32) (h0 : Heap) (n0 : Nat) (v : Option Value) (h : Heap) (L : List Loc) : Prop := v = some (.int 2) ∧ Fr n0 L ∧ Keep h0 h [o2] ∧ Arv Z h o2 kd2 .byte 2 [(.int (nar .byte c1.toInt8.toInt32)), (.int (nar .byte c2.toInt8.toInt32))] (.int 0)
theorem rm13_2 {o1 o2 : Addr} {kd1 kd2 : ClassId} {c1 c2 : Int32} (hw : OwnW a0 Z) (Z0 : n0 ≤ h0.size) (F0 : Arv Z h0 o1 kd1 .char 2 [(.int c1), (.int c2)] (.int 0)) (F1 : Arv Z h0 o2 kd2 .byte 2 [(.int 0), (.int 0)] (.int 0)) (gn_o2 : n0 ≤ o2) (la1 : ¬ (255 : Int32) < c1) (la2 : ¬ (255 : Int32) < c2) (ne_o1_o2 : o1 ≠ o2) : OwnMF l Z y13 jdk_52_method_21_code 7 (some .int) ws ⟨0, 0, 0, 0⟩ #[(.ref o1), (.int 0), (.ref o2), (.int 0), (.int 2)] h0 (Q13_2 Z o1 o2 kd1 kd2 c1 c2 h0 n0) := by
  refine bo (plainFor_of_name pn_12) ?_
  intro p e s m below meth c T0 G C hnm hnamed X0 e0 K
  have N0 := Fr.nil n0
  refine Goes.to (congrArg T0.setTop (ef_13ririi m o1 (0 : Int32) o2 (0 : Int32) (2 : Int32))) ?_
  have K00 := Keep.refl h0 [o2]
  refine g_iconst C X0 d13_0 1 (v := 0) rfl ?_
  refine g_istore C X0 d13_1 3 (w := 0) rfl (ls' := #[rv o1, iv 0, rv o2, iv 0, iv 2, iv 0, uu]) rfl ?_
  refine g_iload C X0 d13_3 5 rfl ?_
  refine g_iload C X0 d13_5 7 rfl ?_
  refine g_icmp_ge C X0 d13_7 44 10 (fun hc7 => absurd hc7 (by decide)) (fun hc7 => ?_)
  refine g_aloadN C X0 d13_10 11 rfl rfl ?_
  refine g_iloadN C X0 d13_11 12 rfl ?_
  refine g_caload C X0 e0 F0 (by decide) (v := (.int c1)) rfl d13_12 13 ?_
  refine g_istore C X0 d13_13 15 (w := c1) rfl (ls' := #[rv o1, iv 0, rv o2, iv 0, iv 2, iv 0, iv c1]) rfl ?_
  refine g_iload C X0 d13_15 17 rfl ?_
  refine g_sipush C X0 d13_17 20 (v := 255) rfl ?_
  refine g_icmp_le C X0 d13_20 26 23 (fun hc20 => ?_) (fun hc20 => absurd hc20 la1)
  refine g_aloadN C X0 d13_26 27 rfl rfl ?_
  refine g_iloadN C X0 d13_27 28 rfl ?_
  refine g_iload C X0 d13_28 30 rfl ?_
  refine g_i2b C X0 d13_30 31 ?_
  refine g_bastore C X0 (i := 0) e0 F1 (by decide) rfl (Nat.le_of_ble_eq_true rfl) d13_31 32 (fun T1 h1 X1 e1 W1 A1 => ?_)
  have f2 := F0.other W1 ne_o1_o2
  have f3 : Arv Z h1 o2 kd2 .byte 2 [(.int (nar .byte c1.toInt8.toInt32)), (.int 0)] (.int 0) := A1
  have N1 := Fr.snoc X1 N0 gn_o2
  have K1 := K00.wr W1 (Or.inl (List.mem_of_getElem? (i := 0) rfl))
  refine g_iinc C X1 d13_32 35 rfl (w := 1) rfl (ls' := #[rv o1, iv 1, rv o2, iv 0, iv 2, iv 0, iv c1]) rfl ?_
  refine g_iinc C X1 d13_35 38 rfl (w := 1) rfl (ls' := #[rv o1, iv 1, rv o2, iv 1, iv 2, iv 0, iv c1]) rfl ?_
  refine g_iinc C X1 d13_38 41 rfl (w := 1) rfl (ls' := #[rv o1, iv 1, rv o2, iv 1, iv 2, iv 1, iv c1]) rfl ?_
  refine g_goto C X1 d13_41 3 ?_
  refine g_iload C X1 d13_3 5 rfl ?_
  refine g_iload C X1 d13_5 7 rfl ?_
  refine g_icmp_ge C X1 d13_7 44 10 (fun hc7 => absurd hc7 (by decide)) (fun hc7 => ?_)
  refine g_aloadN C X1 d13_10 11 rfl rfl ?_
  refine g_iloadN C X1 d13_11 12 rfl ?_
  refine g_caload C X1 e1 f2 (by decide) (v := (.int c2)) rfl d13_12 13 ?_
  refine g_istore C X1 d13_13 15 (w := c2) rfl (ls' := #[rv o1, iv 1, rv o2, iv 1, iv 2, iv 1, iv c2]) rfl ?_
  refine g_iload C X1 d13_15 17 rfl ?_
  refine g_sipush C X1 d13_17 20 (v := 255) rfl ?_
  refine g_icmp_le C X1 d13_20 26 23 (fun hc20 => ?_) (fun hc20 => absurd hc20 la2)
  refine g_aloadN C X1 d13_26 27 rfl rfl ?_
  refine g_iloadN C X1 d13_27 28 rfl ?_
  refine g_iload C X1 d13_28 30 rfl ?_
  refine g_i2b C X1 d13_30 31 ?_
  refine g_bastore C X1 (i := 1) e1 f3 (by decide) rfl (Nat.le_of_ble_eq_true rfl) d13_31 32 (fun T4 h4 X4 e4 W4 A4 => ?_)
  have f6 : Arv Z h4 o2 kd2 .byte 2 [(.int (nar .byte c1.toInt8.toInt32)), (.int (nar .byte c2.toInt8.toInt32))] (.int 0) := A4
  have N4 := Fr.snoc X4 N1 gn_o2
  have K4 := K1.wr W4 (Or.inl (List.mem_of_getElem? (i := 0) rfl))
  refine g_iinc C X4 d13_32 35 rfl (w := 2) rfl (ls' := #[rv o1, iv 2, rv o2, iv 1, iv 2, iv 1, iv c2]) rfl ?_
  refine g_iinc C X4 d13_35 38 rfl (w := 2) rfl (ls' := #[rv o1, iv 2, rv o2, iv 2, iv 2, iv 1, iv c2]) rfl ?_
  refine g_iinc C X4 d13_38 41 rfl (w := 2) rfl (ls' := #[rv o1, iv 2, rv o2, iv 2, iv 2, iv 2, iv c2]) rfl ?_
  refine g_goto C X4 d13_41 3 ?_
  refine g_iload C X4 d13_3 5 rfl ?_
  refine g_iload C X4 d13_5 7 rfl ?_
  refine g_icmp_ge C X4 d13_7 44 10 (fun hc7 => ?_) (fun hc7 => absurd hc7 (by decide))
  refine g_iload C X4 d13_44 46 rfl ?_
  exact g_retI C X4 K d13_46 (by decide) (by decide) e4 ⟨rfl, N4, K4, f6⟩
def Q12_2 (Z : State) (o1 : Addr) (kd1 : ClassId) (c1 : Int32) (c2 : Int32) (h0 : Heap) (n0 : Nat) (v : Option Value) (h : Heap) (L : List Loc) : Prop := ∃ (o3 : Addr) (kd3 : ClassId), v = some (.ref o3) ∧ Fr n0 L ∧ h0.size ≤ o3 ∧ Keep h0 h [] ∧ Arv Z h o3 kd3 .byte 2 [(.int (nar .byte c1.toInt8.toInt32)), (.int (nar .byte c2.toInt8.toInt32))] (.int 0)
theorem rm12_2 {o1 : Addr} {kd1 : ClassId} {c1 c2 : Int32} (hw : OwnW a0 Z) (Z0 : n0 ≤ h0.size) (F0 : Arv Z h0 o1 kd1 .char 2 [(.int c1), (.int c2)] (.int 0)) (la1 : ¬ (255 : Int32) < c1) (la2 : ¬ (255 : Int32) < c2) : OwnMF l Z y12 jdk_52_method_16_code 6 (some (.array .byte)) ws ⟨1, 1, 2, 18⟩ #[(.ref o1), (.int 0), (.int 2)] h0 (Q12_2 Z o1 kd1 c1 c2 h0 n0) := by
  refine bo (plainFor_of_name pn_12) ?_
  intro p e s m below meth c T0 G C hnm hnamed X0 e0 K
  have N0 := Fr.nil n0
  refine Goes.to (congrArg T0.setTop (ef_12rii m o1 (0 : Int32) (2 : Int32))) ?_
  have K00 := Keep.refl h0 []
  refine g_iloadN C X0 d12_0 1 rfl ?_
  refine g_newA (aty := .byte) (n := (2 : Int32)) C X0 (cap := 2) (w_20 hw) e0 d12_1 3 (by decide) (by decide) (by decide) (by decide) (by decide) (fun T1 h1 b1 ki1 X1 e1 g1 E1 A1 => ?_)
  have n2 : o1 ≠ b1 := Nat.ne_of_lt (Nat.lt_of_lt_of_eq F0.lt g1.symm)
  have f3 := F0.ext E1
  have gn_b1 : n0 ≤ b1 := Nat.le_trans Z0 (Nat.le_of_eq g1.symm)
  have Z1 := Nat.le_trans Z0 E1.1
  have sz_b1 : h0.size ≤ b1 := Nat.le_trans K00.1 (Nat.le_of_eq g1.symm)
  have K1 := K00.ext E1
  have f4 : Arv Z h1 b1 ki1 .byte 2 [(.int 0), (.int 0)] (.int 0) := A1.pad (pad_rep [] (.int 0) 2)
  refine g_astoreN C X1 d12_3 4 rfl (ls' := #[rv o1, iv 0, iv 2, rv b1, uu, uu]) rfl ?_
  refine g_aloadN C X1 d12_4 5 rfl rfl ?_
  refine g_iloadN C X1 d12_5 6 rfl ?_
  refine g_aloadN C X1 d12_6 7 rfl rfl ?_
  refine g_iconst C X1 d12_7 8 (v := 0) rfl ?_
  refine g_iloadN C X1 d12_8 9 rfl ?_
  refine g_callS C X1 (w_65 hw) (w_66 hw) (w_63 hw) (w_67 hw) d12_9 [(.ref o1), (.int 0), (.ref b1), (.int 0), (.int 2)] [] 0 (rm13_2 hw Z1 f3 f4 gn_b1 la1 la2 n2) pd_16 e1 12 (fun u5 T5 L5 X5 hQ5 => ?_)
  obtain ⟨rfl, Nq5, Kq5, q5_0⟩ := hQ5
  have N5 := Fr.app N0 Nq5
  have K5 := K1.trans Kq5 (allS (Or.inr sz_b1) all0)
  refine ret1 ?_
  refine g_istore C X5 d12_12 14 (w := 2) rfl (ls' := #[rv o1, iv 0, iv 2, rv b1, iv 2, uu]) rfl ?_
  refine g_iload C X5 d12_14 16 rfl ?_
  refine g_iloadN C X5 d12_16 17 rfl ?_
  refine g_icmp_eq C X5 d12_17 57 20 (fun hc17 => ?_) (fun hc17 => absurd hc17 (by decide))
  refine g_aloadN C X5 d12_57 58 rfl rfl ?_
  exact g_retA C X5 K rfl rfl rfl d12_58 (by decide) (by decide) rfl ⟨b1, ki1, rfl, N5, sz_b1, K5, q5_0⟩
theorem rm14_2 {o1 : Addr} {kd1 : ClassId} {c1 c2 : Int32} (hw : OwnW a0 Z) (Z0 : n0 ≤ h0.size) (F0 : Arv Z h0 o1 kd1 .byte 2 [(.int c1), (.int c2)] (.int 0)) : OwnMF l Z y14 jdk_52_method_15_code 2 (some .byte) ws ⟨0, 0, 0, 0⟩ #[(.ref o1), (.int 2)] h0 (OwnQ (some (.int 0)) h0 n0) := by
  refine bo (plainFor_of_name pn_12) ?_
  intro p e s m below meth c T0 G C hnm hnamed X0 e0 K
  have N0 := Fr.nil n0
  refine Goes.to (congrArg T0.setTop (ef_14ri m o1 (2 : Int32))) ?_
  refine g_iloadN C X0 d14_0 1 rfl ?_
  refine g_aloadN C X0 d14_1 2 rfl rfl ?_
  refine g_arraylength C X0 e0 F0 d14_2 3 ?_
  refine g_isub C X0 d14_3 4 ?_
  rw [show (2 : Int32) - 2 = 0 from by decide]
  refine g_bipush C X0 d14_4 6 (v := 31) rfl ?_
  refine g_iushr C X0 d14_6 7 ?_
  refine g_i2b C X0 d14_7 8 ?_
  exact g_retN C X0 K (by simp) d14_8 (by decide) (by decide) e0 ⟨(by decide), N0, rfl⟩
def Q3_2 (Z : State) (o1 : Addr) (o2 : Addr) (kd1 : ClassId) (c1 : Int32) (c2 : Int32) (cs1 : Int32) (h0 : Heap) (n0 : Nat) (v : Option Value) (h : Heap) (L : List Loc) : Prop := ∃ (o3 : Addr) (kd3 : ClassId), v = none ∧ Fr n0 L ∧ h0.size ≤ o3 ∧ Keep h0 h [o1] ∧ OEs Z h o1 ∧ OFv Z h o1 (.ref o3) ∧ OFc Z h o1 ∧ Arv Z h o3 kd3 .byte 2 [(.int (nar .byte c1.toInt8.toInt32)), (.int (nar .byte c2.toInt8.toInt32))] (.int 0)
theorem rm3_2 {o1 o2 : Addr} {kd1 : ClassId} {c1 c2 cs1 : Int32} (hw : OwnW a0 Z) (Z0 : n0 ≤ h0.size) (F0 : OEs Z h0 o1) (F1 : OFv Z h0 o1 .null) (F2 : OFc Z h0 o1) (F3 : Arv Z h0 o2 kd1 .char 2 [(.int c1), (.int c2)] (.int 0)) (F4 : OSc Z h0 cs1) (gn_o1 : n0 ≤ o1) (la1 : ¬ (255 : Int32) < c1) (la2 : ¬ (255 : Int32) < c2) (hcs : ¬ cs1 = (0 : Int32)) (ne_o1_o2 : o1 ≠ o2) : OwnMF l Z y3 jdk_42_method_149_code 6 none ws ⟨2, 1, 2, 35⟩ #[(.ref o1), (.ref o2), (.int 0), (.int 2), .null] h0 (Q3_2 Z o1 o2 kd1 c1 c2 cs1 h0 n0) := by
  refine bo (plainFor_of_name pn_2) ?_
  intro p e s m below meth c T0 G C hnm hnamed X0 e0 K
  have N0 := Fr.nil n0
  refine Goes.to (congrArg T0.setTop (ef_3rriin m o1 o2 (0 : Int32) (2 : Int32))) ?_
  have K00 := Keep.refl h0 [o1]
  refine g_aloadN C X0 d3_0 1 rfl rfl ?_
  refine g_initO C X0 (w_16 hw) (w_17 hw) (w_18 hw) e0 rfl d3_1 4 (by decide) (W := 0) (Nat.le_of_eq rfl) (by decide) (fun T1 X1 e1 => ?_)
  refine g_iloadN C X1 d3_4 5 rfl ?_
  refine g_if_ne C X1 d3_5 27 8 (fun hc5 => ?_) (fun hc5 => absurd hc5 (by decide))
  refine g_getS C X1 (w_45 hw) Via.refl e1 F4 d3_27 30 (fun T2 X2 e2 => ?_)
  refine g_if_eq C X2 d3_30 58 33 (fun hc30 => absurd hc30 hcs) (fun hc30 => ?_)
  refine g_aloadN C X2 d3_33 34 rfl rfl ?_
  refine g_iloadN C X2 d3_34 35 rfl ?_
  refine g_iloadN C X2 d3_35 36 rfl ?_
  refine g_callS C X2 (w_61 hw) (w_62 hw) (w_63 hw) (w_64 hw) d3_36 [(.ref o2), (.int 0), (.int 2)] [] 0 (rm12_2 hw Z0 F3 la1 la2) pd_17 e2 39 (fun u3 T3 L3 X3 hQ3 => ?_)
  obtain ⟨o33, kd33, rfl, Nq3, szo33, Kq3, q3_0⟩ := hQ3
  have N3 := Fr.app N0 Nq3
  have n4 : o1 ≠ o33 := Nat.ne_of_lt (Nat.lt_of_lt_of_le F0.lt szo33)
  have f6 := F0.keep Kq3
  have f7 := F1.keep Kq3 nin0
  have f8 := F2.keep Kq3 nin0
  have Z3 := Nat.le_trans Z0 Kq3.1
  have sz_o33 : h0.size ≤ o33 := Nat.le_trans K00.1 szo33
  have K3 := K00.trans Kq3 all0
  refine ret1 ?_
  refine g_astore C X3 d3_39 41 rfl (ls' := #[rv o1, rv o2, iv 0, iv 2, nv, rv o33]) rfl ?_
  refine g_aloadN C X3 d3_41 42 rfl rfl ?_
  refine g_aload C X3 d3_42 44 rfl rfl ?_
  refine g_iloadN C X3 d3_44 45 rfl ?_
  refine g_callS0 C X3 (b_14 hw) d3_45 [(.ref o33), (.int 2)] [(.ref o1)] 1 (rm14_2 hw Z3 q3_0) N3 pd_18 rfl 48 (fun T11 _ X11 N11 e11 => ?_)
  refine g_putFN C X11 (w_26 hw) Via.refl e11 f8 f6 (Or.inr ⟨(w_22 hw), rfl, hnm⟩) (w_7 hw) (ty := .byte) (by decide) (v' := (.int 0)) (by decide) (by decide) d3_48 51 (fun T12 h12 X12 e12 W12 => ?_)
  have f13 := f6.wr W12
  have f14 := f7.other W12 (Or.inr (slot_ne (Or.inr (w_21 hw)) (Or.inr (w_22 hw)) (by decide) (t := (.array .byte)) (t' := .byte) (by decide) (by decide)))
  have f15 := f8.same W12
  have f18 := q3_0.other W12 (Ne.symm n4)
  have N12 := Fr.snoc X12 N11 gn_o1
  have K12 := K3.wr W12 (Or.inl (List.mem_of_getElem? (i := 0) rfl))
  refine g_aloadN C X12 d3_51 52 rfl rfl ?_
  refine g_aload C X12 d3_52 54 rfl rfl ?_
  refine g_putF C X12 (w_25 hw) Via.refl e12 f14 f13 (Or.inr ⟨(w_21 hw), rfl, hnm⟩) (w_7 hw) (ty := (.array .byte)) (by decide) rfl rfl d3_54 57 (fun T19 h19 X19 e19 W19 => ?_)
  have f20 := f13.wr W19
  have f21 := f14.same W19
  have f22 := f15.other W19 (Or.inr (slot_ne (Or.inr (w_22 hw)) (Or.inr (w_21 hw)) (by decide) (t := .byte) (t' := (.array .byte)) (by decide) (by decide)))
  have f25 := f18.other W19 (Ne.symm n4)
  have N19 := Fr.snoc X19 N12 gn_o1
  have K19 := K12.wr W19 (Or.inl (List.mem_of_getElem? (i := 0) rfl))
  exact g_retV C X19 K d3_57 (by decide) (by decide) e19 ⟨o33, kd33, rfl, N19, sz_o33, K19, f20, f21, f22, f25⟩
def Q2_2 (Z : State) (o1 : Addr) (o2 : Addr) (kd1 : ClassId) (c1 : Int32) (c2 : Int32) (cs1 : Int32) (h0 : Heap) (n0 : Nat) (v : Option Value) (h : Heap) (L : List Loc) : Prop := ∃ (o3 : Addr) (kd3 : ClassId), v = none ∧ Fr n0 L ∧ h0.size ≤ o3 ∧ Keep h0 h [o1] ∧ OEs Z h o1 ∧ OFv Z h o1 (.ref o3) ∧ OFc Z h o1 ∧ Arv Z h o3 kd3 .byte 2 [(.int (nar .byte c1.toInt8.toInt32)), (.int (nar .byte c2.toInt8.toInt32))] (.int 0)
theorem rm2_2 {o1 o2 : Addr} {kd1 : ClassId} {c1 c2 cs1 : Int32} (hw : OwnW a0 Z) (Z0 : n0 ≤ h0.size) (F0 : OEs Z h0 o1) (F1 : OFv Z h0 o1 .null) (F2 : OFc Z h0 o1) (F3 : Arv Z h0 o2 kd1 .char 2 [(.int c1), (.int c2)] (.int 0)) (F4 : OSc Z h0 cs1) (gn_o1 : n0 ≤ o1) (la1 : ¬ (255 : Int32) < c1) (la2 : ¬ (255 : Int32) < c2) (hcs : ¬ cs1 = (0 : Int32)) (ne_o1_o2 : o1 ≠ o2) : OwnMF l Z y2 jdk_42_method_3_code 2 none ws ⟨3, 1, 2, 52⟩ #[(.ref o1), (.ref o2)] h0 (Q2_2 Z o1 o2 kd1 c1 c2 cs1 h0 n0) := by
  refine bo (plainFor_of_name pn_2) ?_
  intro p e s m below meth c T0 G C hnm hnamed X0 e0 K
  have N0 := Fr.nil n0
  refine Goes.to (congrArg T0.setTop (ef_2rr m o1 o2)) ?_
  have K00 := Keep.refl h0 [o1]
  refine g_aloadN C X0 d2_0 1 rfl rfl ?_
  refine g_aloadN C X0 d2_1 2 rfl rfl ?_
  refine g_iconst C X0 d2_2 3 (v := 0) rfl ?_
  refine g_aloadN C X0 d2_3 4 rfl rfl ?_
  refine g_arraylength C X0 e0 F3 d2_4 5 ?_
  refine g_aconstNull C X0 d2_5 6 ?_
  refine g_callI C X0 rfl (w_12 hw) (w_13 hw) (w_8 hw) (w_15 hw) d2_6 [(.ref o2), (.int 0), (.int 2), .null] [] 0 (rm3_2 hw Z0 F0 F1 F2 F3 F4 gn_o1 la1 la2 hcs ne_o1_o2) pd_15 e0 9 (fun u1 T1 L1 X1 hQ1 => ?_)
  obtain ⟨o31, kd31, rfl, Nq1, szo31, Kq1, q1_0, q1_1, q1_2, q1_3⟩ := hQ1
  have N1 := Fr.app N0 Nq1
  have sz_o31 : h0.size ≤ o31 := Nat.le_trans K00.1 szo31
  have K1 := K00.trans Kq1 (allS (Or.inl (List.mem_of_getElem? (i := 0) rfl)) all0)
  refine ret0 ?_
  exact g_retV C X1 K d2_9 (by decide) (by decide) rfl ⟨o31, kd31, rfl, N1, sz_o31, K1, q1_0, q1_1, q1_2, q1_3⟩
def Q13_3 (Z : State) (o1 : Addr) (o2 : Addr) (kd1 : ClassId) (kd2 : ClassId) (c1 : Int32) (c2 : Int32) (c3 : Int32) (h0 : Heap) (n0 : Nat) (v : Option Value) (h : Heap) (L : List Loc) : Prop := v = some (.int 3) ∧ Fr n0 L ∧ Keep h0 h [o2] ∧ Arv Z h o2 kd2 .byte 3 [(.int (nar .byte c1.toInt8.toInt32)), (.int (nar .byte c2.toInt8.toInt32)), (.int (nar .byte c3.toInt8.toInt32))] (.int 0)
theorem rm13_3 {o1 o2 : Addr} {kd1 kd2 : ClassId} {c1 c2 c3 : Int32} (hw : OwnW a0 Z) (Z0 : n0 ≤ h0.size) (F0 : Arv Z h0 o1 kd1 .char 3 [(.int c1), (.int c2), (.int c3)] (.int 0)) (F1 : Arv Z h0 o2 kd2 .byte 3 [(.int 0), (.int 0), (.int 0)] (.int 0)) (gn_o2 : n0 ≤ o2) (la1 : ¬ (255 : Int32) < c1) (la2 : ¬ (255 : Int32) < c2) (la3 : ¬ (255 : Int32) < c3) (ne_o1_o2 : o1 ≠ o2) : OwnMF l Z y13 jdk_52_method_21_code 7 (some .int) ws ⟨0, 0, 0, 0⟩ #[(.ref o1), (.int 0), (.ref o2), (.int 0), (.int 3)] h0 (Q13_3 Z o1 o2 kd1 kd2 c1 c2 c3 h0 n0) := by
  refine bo (plainFor_of_name pn_12) ?_
  intro p e s m below meth c T0 G C hnm hnamed X0 e0 K
  have N0 := Fr.nil n0
  refine Goes.to (congrArg T0.setTop (ef_13ririi m o1 (0 : Int32) o2 (0 : Int32) (3 : Int32))) ?_
  have K00 := Keep.refl h0 [o2]
  refine g_iconst C X0 d13_0 1 (v := 0) rfl ?_
  refine g_istore C X0 d13_1 3 (w := 0) rfl (ls' := #[rv o1, iv 0, rv o2, iv 0, iv 3, iv 0, uu]) rfl ?_
  refine g_iload C X0 d13_3 5 rfl ?_
  refine g_iload C X0 d13_5 7 rfl ?_
  refine g_icmp_ge C X0 d13_7 44 10 (fun hc7 => absurd hc7 (by decide)) (fun hc7 => ?_)
  refine g_aloadN C X0 d13_10 11 rfl rfl ?_
  refine g_iloadN C X0 d13_11 12 rfl ?_
  refine g_caload C X0 e0 F0 (by decide) (v := (.int c1)) rfl d13_12 13 ?_
  refine g_istore C X0 d13_13 15 (w := c1) rfl (ls' := #[rv o1, iv 0, rv o2, iv 0, iv 3, iv 0, iv c1]) rfl ?_
  refine g_iload C X0 d13_15 17 rfl ?_
  refine g_sipush C X0 d13_17 20 (v := 255) rfl ?_
  refine g_icmp_le C X0 d13_20 26 23 (fun hc20 => ?_) (fun hc20 => absurd hc20 la1)
  refine g_aloadN C X0 d13_26 27 rfl rfl ?_
  refine g_iloadN C X0 d13_27 28 rfl ?_
  refine g_iload C X0 d13_28 30 rfl ?_
  refine g_i2b C X0 d13_30 31 ?_
  refine g_bastore C X0 (i := 0) e0 F1 (by decide) rfl (Nat.le_of_ble_eq_true rfl) d13_31 32 (fun T1 h1 X1 e1 W1 A1 => ?_)
  have f2 := F0.other W1 ne_o1_o2
  have f3 : Arv Z h1 o2 kd2 .byte 3 [(.int (nar .byte c1.toInt8.toInt32)), (.int 0), (.int 0)] (.int 0) := A1
  have N1 := Fr.snoc X1 N0 gn_o2
  have K1 := K00.wr W1 (Or.inl (List.mem_of_getElem? (i := 0) rfl))
  refine g_iinc C X1 d13_32 35 rfl (w := 1) rfl (ls' := #[rv o1, iv 1, rv o2, iv 0, iv 3, iv 0, iv c1]) rfl ?_
  refine g_iinc C X1 d13_35 38 rfl (w := 1) rfl (ls' := #[rv o1, iv 1, rv o2, iv 1, iv 3, iv 0, iv c1]) rfl ?_
  refine g_iinc C X1 d13_38 41 rfl (w := 1) rfl (ls' := #[rv o1, iv 1, rv o2, iv 1, iv 3, iv 1, iv c1]) rfl ?_
  refine g_goto C X1 d13_41 3 ?_
  refine g_iload C X1 d13_3 5 rfl ?_
  refine g_iload C X1 d13_5 7 rfl ?_
  refine g_icmp_ge C X1 d13_7 44 10 (fun hc7 => absurd hc7 (by decide)) (fun hc7 => ?_)
  refine g_aloadN C X1 d13_10 11 rfl rfl ?_
  refine g_iloadN C X1 d13_11 12 rfl ?_
  refine g_caload C X1 e1 f2 (by decide) (v := (.int c2)) rfl d13_12 13 ?_
  refine g_istore C X1 d13_13 15 (w := c2) rfl (ls' := #[rv o1, iv 1, rv o2, iv 1, iv 3, iv 1, iv c2]) rfl ?_
  refine g_iload C X1 d13_15 17 rfl ?_
  refine g_sipush C X1 d13_17 20 (v := 255) rfl ?_
  refine g_icmp_le C X1 d13_20 26 23 (fun hc20 => ?_) (fun hc20 => absurd hc20 la2)
  refine g_aloadN C X1 d13_26 27 rfl rfl ?_
  refine g_iloadN C X1 d13_27 28 rfl ?_
  refine g_iload C X1 d13_28 30 rfl ?_
  refine g_i2b C X1 d13_30 31 ?_
  refine g_bastore C X1 (i := 1) e1 f3 (by decide) rfl (Nat.le_of_ble_eq_true rfl) d13_31 32 (fun T4 h4 X4 e4 W4 A4 => ?_)
  have f5 := f2.other W4 ne_o1_o2
  have f6 : Arv Z h4 o2 kd2 .byte 3 [(.int (nar .byte c1.toInt8.toInt32)), (.int (nar .byte c2.toInt8.toInt32)), (.int 0)] (.int 0) := A4
  have N4 := Fr.snoc X4 N1 gn_o2
  have K4 := K1.wr W4 (Or.inl (List.mem_of_getElem? (i := 0) rfl))
  refine g_iinc C X4 d13_32 35 rfl (w := 2) rfl (ls' := #[rv o1, iv 2, rv o2, iv 1, iv 3, iv 1, iv c2]) rfl ?_
  refine g_iinc C X4 d13_35 38 rfl (w := 2) rfl (ls' := #[rv o1, iv 2, rv o2, iv 2, iv 3, iv 1, iv c2]) rfl ?_
  refine g_iinc C X4 d13_38 41 rfl (w := 2) rfl (ls' := #[rv o1, iv 2, rv o2, iv 2, iv 3, iv 2, iv c2]) rfl ?_
  refine g_goto C X4 d13_41 3 ?_
  refine g_iload C X4 d13_3 5 rfl ?_
  refine g_iload C X4 d13_5 7 rfl ?_
  refine g_icmp_ge C X4 d13_7 44 10 (fun hc7 => absurd hc7 (by decide)) (fun hc7 => ?_)
  refine g_aloadN C X4 d13_10 11 rfl rfl ?_
  refine g_iloadN C X4 d13_11 12 rfl ?_
  refine g_caload C X4 e4 f5 (by decide) (v := (.int c3)) rfl d13_12 13 ?_
  refine g_istore C X4 d13_13 15 (w := c3) rfl (ls' := #[rv o1, iv 2, rv o2, iv 2, iv 3, iv 2, iv c3]) rfl ?_
  refine g_iload C X4 d13_15 17 rfl ?_
  refine g_sipush C X4 d13_17 20 (v := 255) rfl ?_
  refine g_icmp_le C X4 d13_20 26 23 (fun hc20 => ?_) (fun hc20 => absurd hc20 la3)
  refine g_aloadN C X4 d13_26 27 rfl rfl ?_
  refine g_iloadN C X4 d13_27 28 rfl ?_
  refine g_iload C X4 d13_28 30 rfl ?_
  refine g_i2b C X4 d13_30 31 ?_
  refine g_bastore C X4 (i := 2) e4 f6 (by decide) rfl (Nat.le_of_ble_eq_true rfl) d13_31 32 (fun T7 h7 X7 e7 W7 A7 => ?_)
  have f9 : Arv Z h7 o2 kd2 .byte 3 [(.int (nar .byte c1.toInt8.toInt32)), (.int (nar .byte c2.toInt8.toInt32)), (.int (nar .byte c3.toInt8.toInt32))] (.int 0) := A7
  have N7 := Fr.snoc X7 N4 gn_o2
  have K7 := K4.wr W7 (Or.inl (List.mem_of_getElem? (i := 0) rfl))
  refine g_iinc C X7 d13_32 35 rfl (w := 3) rfl (ls' := #[rv o1, iv 3, rv o2, iv 2, iv 3, iv 2, iv c3]) rfl ?_
  refine g_iinc C X7 d13_35 38 rfl (w := 3) rfl (ls' := #[rv o1, iv 3, rv o2, iv 3, iv 3, iv 2, iv c3]) rfl ?_
  refine g_iinc C X7 d13_38 41 rfl (w := 3) rfl (ls' := #[rv o1, iv 3, rv o2, iv 3, iv 3, iv 3, iv c3]) rfl ?_
  refine g_goto C X7 d13_41 3 ?_
  refine g_iload C X7 d13_3 5 rfl ?_
  refine g_iload C X7 d13_5 7 rfl ?_
  refine g_icmp_ge C X7 d13_7 44 10 (fun hc7 => ?_) (fun hc7 => absurd hc7 (by decide))
  refine g_iload C X7 d13_44 46 rfl ?_
  exact g_retI C X7 K d13_46 (by decide) (by decide) e7 ⟨rfl, N7, K7, f9⟩
def Q12_3 (Z : State) (o1 : Addr) (kd1 : ClassId) (c1 : Int32) (c2 : Int32) (c3 : Int32) (h0 : Heap) (n0 : Nat) (v : Option Value) (h : Heap) (L : List Loc) : Prop := ∃ (o3 : Addr) (kd3 : ClassId), v = some (.ref o3) ∧ Fr n0 L ∧ h0.size ≤ o3 ∧ Keep h0 h [] ∧ Arv Z h o3 kd3 .byte 3 [(.int (nar .byte c1.toInt8.toInt32)), (.int (nar .byte c2.toInt8.toInt32)), (.int (nar .byte c3.toInt8.toInt32))] (.int 0)
theorem rm12_3 {o1 : Addr} {kd1 : ClassId} {c1 c2 c3 : Int32} (hw : OwnW a0 Z) (Z0 : n0 ≤ h0.size) (F0 : Arv Z h0 o1 kd1 .char 3 [(.int c1), (.int c2), (.int c3)] (.int 0)) (la1 : ¬ (255 : Int32) < c1) (la2 : ¬ (255 : Int32) < c2) (la3 : ¬ (255 : Int32) < c3) : OwnMF l Z y12 jdk_52_method_16_code 6 (some (.array .byte)) ws ⟨1, 1, 3, 18⟩ #[(.ref o1), (.int 0), (.int 3)] h0 (Q12_3 Z o1 kd1 c1 c2 c3 h0 n0) := by
  refine bo (plainFor_of_name pn_12) ?_
  intro p e s m below meth c T0 G C hnm hnamed X0 e0 K
  have N0 := Fr.nil n0
  refine Goes.to (congrArg T0.setTop (ef_12rii m o1 (0 : Int32) (3 : Int32))) ?_
  have K00 := Keep.refl h0 []
  refine g_iloadN C X0 d12_0 1 rfl ?_
  refine g_newA (aty := .byte) (n := (3 : Int32)) C X0 (cap := 3) (w_20 hw) e0 d12_1 3 (by decide) (by decide) (by decide) (by decide) (by decide) (fun T1 h1 b1 ki1 X1 e1 g1 E1 A1 => ?_)
  have n2 : o1 ≠ b1 := Nat.ne_of_lt (Nat.lt_of_lt_of_eq F0.lt g1.symm)
  have f3 := F0.ext E1
  have gn_b1 : n0 ≤ b1 := Nat.le_trans Z0 (Nat.le_of_eq g1.symm)
  have Z1 := Nat.le_trans Z0 E1.1
  have sz_b1 : h0.size ≤ b1 := Nat.le_trans K00.1 (Nat.le_of_eq g1.symm)
  have K1 := K00.ext E1
  have f4 : Arv Z h1 b1 ki1 .byte 3 [(.int 0), (.int 0), (.int 0)] (.int 0) := A1.pad (pad_rep [] (.int 0) 3)
  refine g_astoreN C X1 d12_3 4 rfl (ls' := #[rv o1, iv 0, iv 3, rv b1, uu, uu]) rfl ?_
  refine g_aloadN C X1 d12_4 5 rfl rfl ?_
  refine g_iloadN C X1 d12_5 6 rfl ?_
  refine g_aloadN C X1 d12_6 7 rfl rfl ?_
  refine g_iconst C X1 d12_7 8 (v := 0) rfl ?_
  refine g_iloadN C X1 d12_8 9 rfl ?_
  refine g_callS C X1 (w_65 hw) (w_66 hw) (w_63 hw) (w_67 hw) d12_9 [(.ref o1), (.int 0), (.ref b1), (.int 0), (.int 3)] [] 0 (rm13_3 hw Z1 f3 f4 gn_b1 la1 la2 la3 n2) pd_16 e1 12 (fun u5 T5 L5 X5 hQ5 => ?_)
  obtain ⟨rfl, Nq5, Kq5, q5_0⟩ := hQ5
  have N5 := Fr.app N0 Nq5
  have K5 := K1.trans Kq5 (allS (Or.inr sz_b1) all0)
  refine ret1 ?_
  refine g_istore C X5 d12_12 14 (w := 3) rfl (ls' := #[rv o1, iv 0, iv 3, rv b1, iv 3, uu]) rfl ?_
  refine g_iload C X5 d12_14 16 rfl ?_
  refine g_iloadN C X5 d12_16 17 rfl ?_
  refine g_icmp_eq C X5 d12_17 57 20 (fun hc17 => ?_) (fun hc17 => absurd hc17 (by decide))
  refine g_aloadN C X5 d12_57 58 rfl rfl ?_
  exact g_retA C X5 K rfl rfl rfl d12_58 (by decide) (by decide) rfl ⟨b1, ki1, rfl, N5, sz_b1, K5, q5_0⟩
theorem rm14_3 {o1 : Addr} {kd1 : ClassId} {c1 c2 c3 : Int32} (hw : OwnW a0 Z) (Z0 : n0 ≤ h0.size) (F0 : Arv Z h0 o1 kd1 .byte 3 [(.int c1), (.int c2), (.int c3)] (.int 0)) : OwnMF l Z y14 jdk_52_method_15_code 2 (some .byte) ws ⟨0, 0, 0, 0⟩ #[(.ref o1), (.int 3)] h0 (OwnQ (some (.int 0)) h0 n0) := by
  refine bo (plainFor_of_name pn_12) ?_
  intro p e s m below meth c T0 G C hnm hnamed X0 e0 K
  have N0 := Fr.nil n0
  refine Goes.to (congrArg T0.setTop (ef_14ri m o1 (3 : Int32))) ?_
  refine g_iloadN C X0 d14_0 1 rfl ?_
  refine g_aloadN C X0 d14_1 2 rfl rfl ?_
  refine g_arraylength C X0 e0 F0 d14_2 3 ?_
  refine g_isub C X0 d14_3 4 ?_
  rw [show (3 : Int32) - 3 = 0 from by decide]
  refine g_bipush C X0 d14_4 6 (v := 31) rfl ?_
  refine g_iushr C X0 d14_6 7 ?_
  refine g_i2b C X0 d14_7 8 ?_
  exact g_retN C X0 K (by simp) d14_8 (by decide) (by decide) e0 ⟨(by decide), N0, rfl⟩
def Q3_3 (Z : State) (o1 : Addr) (o2 : Addr) (kd1 : ClassId) (c1 : Int32) (c2 : Int32) (c3 : Int32) (cs1 : Int32) (h0 : Heap) (n0 : Nat) (v : Option Value) (h : Heap) (L : List Loc) : Prop := ∃ (o3 : Addr) (kd3 : ClassId), v = none ∧ Fr n0 L ∧ h0.size ≤ o3 ∧ Keep h0 h [o1] ∧ OEs Z h o1 ∧ OFv Z h o1 (.ref o3) ∧ OFc Z h o1 ∧ Arv Z h o3 kd3 .byte 3 [(.int (nar .byte c1.toInt8.toInt32)), (.int (nar .byte c2.toInt8.toInt32)), (.int (nar .byte c3.toInt8.toInt32))] (.int 0)
theorem rm3_3 {o1 o2 : Addr} {kd1 : ClassId} {c1 c2 c3 cs1 : Int32} (hw : OwnW a0 Z) (Z0 : n0 ≤ h0.size) (F0 : OEs Z h0 o1) (F1 : OFv Z h0 o1 .null) (F2 : OFc Z h0 o1) (F3 : Arv Z h0 o2 kd1 .char 3 [(.int c1), (.int c2), (.int c3)] (.int 0)) (F4 : OSc Z h0 cs1) (gn_o1 : n0 ≤ o1) (la1 : ¬ (255 : Int32) < c1) (la2 : ¬ (255 : Int32) < c2) (la3 : ¬ (255 : Int32) < c3) (hcs : ¬ cs1 = (0 : Int32)) (ne_o1_o2 : o1 ≠ o2) : OwnMF l Z y3 jdk_42_method_149_code 6 none ws ⟨2, 1, 3, 35⟩ #[(.ref o1), (.ref o2), (.int 0), (.int 3), .null] h0 (Q3_3 Z o1 o2 kd1 c1 c2 c3 cs1 h0 n0) := by
  refine bo (plainFor_of_name pn_2) ?_
  intro p e s m below meth c T0 G C hnm hnamed X0 e0 K
  have N0 := Fr.nil n0
  refine Goes.to (congrArg T0.setTop (ef_3rriin m o1 o2 (0 : Int32) (3 : Int32))) ?_
  have K00 := Keep.refl h0 [o1]
  refine g_aloadN C X0 d3_0 1 rfl rfl ?_
  refine g_initO C X0 (w_16 hw) (w_17 hw) (w_18 hw) e0 rfl d3_1 4 (by decide) (W := 0) (Nat.le_of_eq rfl) (by decide) (fun T1 X1 e1 => ?_)
  refine g_iloadN C X1 d3_4 5 rfl ?_
  refine g_if_ne C X1 d3_5 27 8 (fun hc5 => ?_) (fun hc5 => absurd hc5 (by decide))
  refine g_getS C X1 (w_45 hw) Via.refl e1 F4 d3_27 30 (fun T2 X2 e2 => ?_)
  refine g_if_eq C X2 d3_30 58 33 (fun hc30 => absurd hc30 hcs) (fun hc30 => ?_)
  refine g_aloadN C X2 d3_33 34 rfl rfl ?_
  refine g_iloadN C X2 d3_34 35 rfl ?_
  refine g_iloadN C X2 d3_35 36 rfl ?_
  refine g_callS C X2 (w_61 hw) (w_62 hw) (w_63 hw) (w_64 hw) d3_36 [(.ref o2), (.int 0), (.int 3)] [] 0 (rm12_3 hw Z0 F3 la1 la2 la3) pd_17 e2 39 (fun u3 T3 L3 X3 hQ3 => ?_)
  obtain ⟨o33, kd33, rfl, Nq3, szo33, Kq3, q3_0⟩ := hQ3
  have N3 := Fr.app N0 Nq3
  have n4 : o1 ≠ o33 := Nat.ne_of_lt (Nat.lt_of_lt_of_le F0.lt szo33)
  have f6 := F0.keep Kq3
  have f7 := F1.keep Kq3 nin0
  have f8 := F2.keep Kq3 nin0
  have Z3 := Nat.le_trans Z0 Kq3.1
  have sz_o33 : h0.size ≤ o33 := Nat.le_trans K00.1 szo33
  have K3 := K00.trans Kq3 all0
  refine ret1 ?_
  refine g_astore C X3 d3_39 41 rfl (ls' := #[rv o1, rv o2, iv 0, iv 3, nv, rv o33]) rfl ?_
  refine g_aloadN C X3 d3_41 42 rfl rfl ?_
  refine g_aload C X3 d3_42 44 rfl rfl ?_
  refine g_iloadN C X3 d3_44 45 rfl ?_
  refine g_callS0 C X3 (b_14 hw) d3_45 [(.ref o33), (.int 3)] [(.ref o1)] 1 (rm14_3 hw Z3 q3_0) N3 pd_18 rfl 48 (fun T11 _ X11 N11 e11 => ?_)
  refine g_putFN C X11 (w_26 hw) Via.refl e11 f8 f6 (Or.inr ⟨(w_22 hw), rfl, hnm⟩) (w_7 hw) (ty := .byte) (by decide) (v' := (.int 0)) (by decide) (by decide) d3_48 51 (fun T12 h12 X12 e12 W12 => ?_)
  have f13 := f6.wr W12
  have f14 := f7.other W12 (Or.inr (slot_ne (Or.inr (w_21 hw)) (Or.inr (w_22 hw)) (by decide) (t := (.array .byte)) (t' := .byte) (by decide) (by decide)))
  have f15 := f8.same W12
  have f18 := q3_0.other W12 (Ne.symm n4)
  have N12 := Fr.snoc X12 N11 gn_o1
  have K12 := K3.wr W12 (Or.inl (List.mem_of_getElem? (i := 0) rfl))
  refine g_aloadN C X12 d3_51 52 rfl rfl ?_
  refine g_aload C X12 d3_52 54 rfl rfl ?_
  refine g_putF C X12 (w_25 hw) Via.refl e12 f14 f13 (Or.inr ⟨(w_21 hw), rfl, hnm⟩) (w_7 hw) (ty := (.array .byte)) (by decide) rfl rfl d3_54 57 (fun T19 h19 X19 e19 W19 => ?_)
  have f20 := f13.wr W19
  have f21 := f14.same W19
  have f22 := f15.other W19 (Or.inr (slot_ne (Or.inr (w_22 hw)) (Or.inr (w_21 hw)) (by decide) (t := .byte) (t' := (.array .byte)) (by decide) (by decide)))
  have f25 := f18.other W19 (Ne.symm n4)
  have N19 := Fr.snoc X19 N12 gn_o1
  have K19 := K12.wr W19 (Or.inl (List.mem_of_getElem? (i := 0) rfl))
  exact g_retV C X19 K d3_57 (by decide) (by decide) e19 ⟨o33, kd33, rfl, N19, sz_o33, K19, f20, f21, f22, f25⟩
def Q2_3 (Z : State) (o1 : Addr) (o2 : Addr) (kd1 : ClassId) (c1 : Int32) (c2 : Int32) (c3 : Int32) (cs1 : Int32) (h0 : Heap) (n0 : Nat) (v : Option Value) (h : Heap) (L : List Loc) : Prop := ∃ (o3 : Addr) (kd3 : ClassId), v = none ∧ Fr n0 L ∧ h0.size ≤ o3 ∧ Keep h0 h [o1] ∧ OEs Z h o1 ∧ OFv Z h o1 (.ref o3) ∧ OFc Z h o1 ∧ Arv Z h o3 kd3 .byte 3 [(.int (nar .byte c1.toInt8.toInt32)), (.int (nar .byte c2.toInt8.toInt32)), (.int (nar .byte c3.toInt8.toInt32))] (.int 0)
theorem rm2_3 {o1 o2 : Addr} {kd1 : ClassId} {c1 c2 c3 cs1 : Int32} (hw : OwnW a0 Z) (Z0 : n0 ≤ h0.size) (F0 : OEs Z h0 o1) (F1 : OFv Z h0 o1 .null) (F2 : OFc Z h0 o1) (F3 : Arv Z h0 o2 kd1 .char 3 [(.int c1), (.int c2), (.int c3)] (.int 0)) (F4 : OSc Z h0 cs1) (gn_o1 : n0 ≤ o1) (la1 : ¬ (255 : Int32) < c1) (la2 : ¬ (255 : Int32) < c2) (la3 : ¬ (255 : Int32) < c3) (hcs : ¬ cs1 = (0 : Int32)) (ne_o1_o2 : o1 ≠ o2) : OwnMF l Z y2 jdk_42_method_3_code 2 none ws ⟨3, 1, 3, 52⟩ #[(.ref o1), (.ref o2)] h0 (Q2_3 Z o1 o2 kd1 c1 c2 c3 cs1 h0 n0) := by
  refine bo (plainFor_of_name pn_2) ?_
  intro p e s m below meth c T0 G C hnm hnamed X0 e0 K
  have N0 := Fr.nil n0
  refine Goes.to (congrArg T0.setTop (ef_2rr m o1 o2)) ?_
  have K00 := Keep.refl h0 [o1]
  refine g_aloadN C X0 d2_0 1 rfl rfl ?_
  refine g_aloadN C X0 d2_1 2 rfl rfl ?_
  refine g_iconst C X0 d2_2 3 (v := 0) rfl ?_
  refine g_aloadN C X0 d2_3 4 rfl rfl ?_
  refine g_arraylength C X0 e0 F3 d2_4 5 ?_
  refine g_aconstNull C X0 d2_5 6 ?_
  refine g_callI C X0 rfl (w_12 hw) (w_13 hw) (w_8 hw) (w_15 hw) d2_6 [(.ref o2), (.int 0), (.int 3), .null] [] 0 (rm3_3 hw Z0 F0 F1 F2 F3 F4 gn_o1 la1 la2 la3 hcs ne_o1_o2) pd_15 e0 9 (fun u1 T1 L1 X1 hQ1 => ?_)
  obtain ⟨o31, kd31, rfl, Nq1, szo31, Kq1, q1_0, q1_1, q1_2, q1_3⟩ := hQ1
  have N1 := Fr.app N0 Nq1
  have sz_o31 : h0.size ≤ o31 := Nat.le_trans K00.1 szo31
  have K1 := K00.trans Kq1 (allS (Or.inl (List.mem_of_getElem? (i := 0) rfl)) all0)
  refine ret0 ?_
  exact g_retV C X1 K d2_9 (by decide) (by decide) rfl ⟨o31, kd31, rfl, N1, sz_o31, K1, q1_0, q1_1, q1_2, q1_3⟩
def Q13_4 (Z : State) (o1 : Addr) (o2 : Addr) (kd1 : ClassId) (kd2 : ClassId) (c1 : Int32) (c2 : Int32) (c3 : Int32) (c4 : Int32) (h0 : Heap) (n0 : Nat) (v : Option Value) (h : Heap) (L : List Loc) : Prop := v = some (.int 4) ∧ Fr n0 L ∧ Keep h0 h [o2] ∧ Arv Z h o2 kd2 .byte 4 [(.int (nar .byte c1.toInt8.toInt32)), (.int (nar .byte c2.toInt8.toInt32)), (.int (nar .byte c3.toInt8.toInt32)), (.int (nar .byte c4.toInt8.toInt32))] (.int 0)
theorem rm13_4 {o1 o2 : Addr} {kd1 kd2 : ClassId} {c1 c2 c3 c4 : Int32} (hw : OwnW a0 Z) (Z0 : n0 ≤ h0.size) (F0 : Arv Z h0 o1 kd1 .char 4 [(.int c1), (.int c2), (.int c3), (.int c4)] (.int 0)) (F1 : Arv Z h0 o2 kd2 .byte 4 [(.int 0), (.int 0), (.int 0), (.int 0)] (.int 0)) (gn_o2 : n0 ≤ o2) (la1 : ¬ (255 : Int32) < c1) (la2 : ¬ (255 : Int32) < c2) (la3 : ¬ (255 : Int32) < c3) (la4 : ¬ (255 : Int32) < c4) (ne_o1_o2 : o1 ≠ o2) : OwnMF l Z y13 jdk_52_method_21_code 7 (some .int) ws ⟨0, 0, 0, 0⟩ #[(.ref o1), (.int 0), (.ref o2), (.int 0), (.int 4)] h0 (Q13_4 Z o1 o2 kd1 kd2 c1 c2 c3 c4 h0 n0) := by
  refine bo (plainFor_of_name pn_12) ?_
  intro p e s m below meth c T0 G C hnm hnamed X0 e0 K
  have N0 := Fr.nil n0
  refine Goes.to (congrArg T0.setTop (ef_13ririi m o1 (0 : Int32) o2 (0 : Int32) (4 : Int32))) ?_
  have K00 := Keep.refl h0 [o2]
  refine g_iconst C X0 d13_0 1 (v := 0) rfl ?_
  refine g_istore C X0 d13_1 3 (w := 0) rfl (ls' := #[rv o1, iv 0, rv o2, iv 0, iv 4, iv 0, uu]) rfl ?_
  refine g_iload C X0 d13_3 5 rfl ?_
  refine g_iload C X0 d13_5 7 rfl ?_
  refine g_icmp_ge C X0 d13_7 44 10 (fun hc7 => absurd hc7 (by decide)) (fun hc7 => ?_)
  refine g_aloadN C X0 d13_10 11 rfl rfl ?_
  refine g_iloadN C X0 d13_11 12 rfl ?_
  refine g_caload C X0 e0 F0 (by decide) (v := (.int c1)) rfl d13_12 13 ?_
  refine g_istore C X0 d13_13 15 (w := c1) rfl (ls' := #[rv o1, iv 0, rv o2, iv 0, iv 4, iv 0, iv c1]) rfl ?_
  refine g_iload C X0 d13_15 17 rfl ?_
  refine g_sipush C X0 d13_17 20 (v := 255) rfl ?_
  refine g_icmp_le C X0 d13_20 26 23 (fun hc20 => ?_) (fun hc20 => absurd hc20 la1)
  refine g_aloadN C X0 d13_26 27 rfl rfl ?_
  refine g_iloadN C X0 d13_27 28 rfl ?_
  refine g_iload C X0 d13_28 30 rfl ?_
  refine g_i2b C X0 d13_30 31 ?_
  refine g_bastore C X0 (i := 0) e0 F1 (by decide) rfl (Nat.le_of_ble_eq_true rfl) d13_31 32 (fun T1 h1 X1 e1 W1 A1 => ?_)
  have f2 := F0.other W1 ne_o1_o2
  have f3 : Arv Z h1 o2 kd2 .byte 4 [(.int (nar .byte c1.toInt8.toInt32)), (.int 0), (.int 0), (.int 0)] (.int 0) := A1
  have N1 := Fr.snoc X1 N0 gn_o2
  have K1 := K00.wr W1 (Or.inl (List.mem_of_getElem? (i := 0) rfl))
  refine g_iinc C X1 d13_32 35 rfl (w := 1) rfl (ls' := #[rv o1, iv 1, rv o2, iv 0, iv 4, iv 0, iv c1]) rfl ?_
  refine g_iinc C X1 d13_35 38 rfl (w := 1) rfl (ls' := #[rv o1, iv 1, rv o2, iv 1, iv 4, iv 0, iv c1]) rfl ?_
  refine g_iinc C X1 d13_38 41 rfl (w := 1) rfl (ls' := #[rv o1, iv 1, rv o2, iv 1, iv 4, iv 1, iv c1]) rfl ?_
  refine g_goto C X1 d13_41 3 ?_
  refine g_iload C X1 d13_3 5 rfl ?_
  refine g_iload C X1 d13_5 7 rfl ?_
  refine g_icmp_ge C X1 d13_7 44 10 (fun hc7 => absurd hc7 (by decide)) (fun hc7 => ?_)
  refine g_aloadN C X1 d13_10 11 rfl rfl ?_
  refine g_iloadN C X1 d13_11 12 rfl ?_
  refine g_caload C X1 e1 f2 (by decide) (v := (.int c2)) rfl d13_12 13 ?_
  refine g_istore C X1 d13_13 15 (w := c2) rfl (ls' := #[rv o1, iv 1, rv o2, iv 1, iv 4, iv 1, iv c2]) rfl ?_
  refine g_iload C X1 d13_15 17 rfl ?_
  refine g_sipush C X1 d13_17 20 (v := 255) rfl ?_
  refine g_icmp_le C X1 d13_20 26 23 (fun hc20 => ?_) (fun hc20 => absurd hc20 la2)
  refine g_aloadN C X1 d13_26 27 rfl rfl ?_
  refine g_iloadN C X1 d13_27 28 rfl ?_
  refine g_iload C X1 d13_28 30 rfl ?_
  refine g_i2b C X1 d13_30 31 ?_
  refine g_bastore C X1 (i := 1) e1 f3 (by decide) rfl (Nat.le_of_ble_eq_true rfl) d13_31 32 (fun T4 h4 X4 e4 W4 A4 => ?_)
  have f5 := f2.other W4 ne_o1_o2
  have f6 : Arv Z h4 o2 kd2 .byte 4 [(.int (nar .byte c1.toInt8.toInt32)), (.int (nar .byte c2.toInt8.toInt32)), (.int 0), (.int 0)] (.int 0) := A4
  have N4 := Fr.snoc X4 N1 gn_o2
  have K4 := K1.wr W4 (Or.inl (List.mem_of_getElem? (i := 0) rfl))
  refine g_iinc C X4 d13_32 35 rfl (w := 2) rfl (ls' := #[rv o1, iv 2, rv o2, iv 1, iv 4, iv 1, iv c2]) rfl ?_
  refine g_iinc C X4 d13_35 38 rfl (w := 2) rfl (ls' := #[rv o1, iv 2, rv o2, iv 2, iv 4, iv 1, iv c2]) rfl ?_
  refine g_iinc C X4 d13_38 41 rfl (w := 2) rfl (ls' := #[rv o1, iv 2, rv o2, iv 2, iv 4, iv 2, iv c2]) rfl ?_
  refine g_goto C X4 d13_41 3 ?_
  refine g_iload C X4 d13_3 5 rfl ?_
  refine g_iload C X4 d13_5 7 rfl ?_
  refine g_icmp_ge C X4 d13_7 44 10 (fun hc7 => absurd hc7 (by decide)) (fun hc7 => ?_)
  refine g_aloadN C X4 d13_10 11 rfl rfl ?_
  refine g_iloadN C X4 d13_11 12 rfl ?_
  refine g_caload C X4 e4 f5 (by decide) (v := (.int c3)) rfl d13_12 13 ?_
  refine g_istore C X4 d13_13 15 (w := c3) rfl (ls' := #[rv o1, iv 2, rv o2, iv 2, iv 4, iv 2, iv c3]) rfl ?_
  refine g_iload C X4 d13_15 17 rfl ?_
  refine g_sipush C X4 d13_17 20 (v := 255) rfl ?_
  refine g_icmp_le C X4 d13_20 26 23 (fun hc20 => ?_) (fun hc20 => absurd hc20 la3)
  refine g_aloadN C X4 d13_26 27 rfl rfl ?_
  refine g_iloadN C X4 d13_27 28 rfl ?_
  refine g_iload C X4 d13_28 30 rfl ?_
  refine g_i2b C X4 d13_30 31 ?_
  refine g_bastore C X4 (i := 2) e4 f6 (by decide) rfl (Nat.le_of_ble_eq_true rfl) d13_31 32 (fun T7 h7 X7 e7 W7 A7 => ?_)
  have f8 := f5.other W7 ne_o1_o2
  have f9 : Arv Z h7 o2 kd2 .byte 4 [(.int (nar .byte c1.toInt8.toInt32)), (.int (nar .byte c2.toInt8.toInt32)), (.int (nar .byte c3.toInt8.toInt32)), (.int 0)] (.int 0) := A7
  have N7 := Fr.snoc X7 N4 gn_o2
  have K7 := K4.wr W7 (Or.inl (List.mem_of_getElem? (i := 0) rfl))
  refine g_iinc C X7 d13_32 35 rfl (w := 3) rfl (ls' := #[rv o1, iv 3, rv o2, iv 2, iv 4, iv 2, iv c3]) rfl ?_
  refine g_iinc C X7 d13_35 38 rfl (w := 3) rfl (ls' := #[rv o1, iv 3, rv o2, iv 3, iv 4, iv 2, iv c3]) rfl ?_
  refine g_iinc C X7 d13_38 41 rfl (w := 3) rfl (ls' := #[rv o1, iv 3, rv o2, iv 3, iv 4, iv 3, iv c3]) rfl ?_
  refine g_goto C X7 d13_41 3 ?_
  refine g_iload C X7 d13_3 5 rfl ?_
  refine g_iload C X7 d13_5 7 rfl ?_
  refine g_icmp_ge C X7 d13_7 44 10 (fun hc7 => absurd hc7 (by decide)) (fun hc7 => ?_)
  refine g_aloadN C X7 d13_10 11 rfl rfl ?_
  refine g_iloadN C X7 d13_11 12 rfl ?_
  refine g_caload C X7 e7 f8 (by decide) (v := (.int c4)) rfl d13_12 13 ?_
  refine g_istore C X7 d13_13 15 (w := c4) rfl (ls' := #[rv o1, iv 3, rv o2, iv 3, iv 4, iv 3, iv c4]) rfl ?_
  refine g_iload C X7 d13_15 17 rfl ?_
  refine g_sipush C X7 d13_17 20 (v := 255) rfl ?_
  refine g_icmp_le C X7 d13_20 26 23 (fun hc20 => ?_) (fun hc20 => absurd hc20 la4)
  refine g_aloadN C X7 d13_26 27 rfl rfl ?_
  refine g_iloadN C X7 d13_27 28 rfl ?_
  refine g_iload C X7 d13_28 30 rfl ?_
  refine g_i2b C X7 d13_30 31 ?_
  refine g_bastore C X7 (i := 3) e7 f9 (by decide) rfl (Nat.le_of_ble_eq_true rfl) d13_31 32 (fun T10 h10 X10 e10 W10 A10 => ?_)
  have f12 : Arv Z h10 o2 kd2 .byte 4 [(.int (nar .byte c1.toInt8.toInt32)), (.int (nar .byte c2.toInt8.toInt32)), (.int (nar .byte c3.toInt8.toInt32)), (.int (nar .byte c4.toInt8.toInt32))] (.int 0) := A10
  have N10 := Fr.snoc X10 N7 gn_o2
  have K10 := K7.wr W10 (Or.inl (List.mem_of_getElem? (i := 0) rfl))
  refine g_iinc C X10 d13_32 35 rfl (w := 4) rfl (ls' := #[rv o1, iv 4, rv o2, iv 3, iv 4, iv 3, iv c4]) rfl ?_
  refine g_iinc C X10 d13_35 38 rfl (w := 4) rfl (ls' := #[rv o1, iv 4, rv o2, iv 4, iv 4, iv 3, iv c4]) rfl ?_
  refine g_iinc C X10 d13_38 41 rfl (w := 4) rfl (ls' := #[rv o1, iv 4, rv o2, iv 4, iv 4, iv 4, iv c4]) rfl ?_
  refine g_goto C X10 d13_41 3 ?_
  refine g_iload C X10 d13_3 5 rfl ?_
  refine g_iload C X10 d13_5 7 rfl ?_
  refine g_icmp_ge C X10 d13_7 44 10 (fun hc7 => ?_) (fun hc7 => absurd hc7 (by decide))
  refine g_iload C X10 d13_44 46 rfl ?_
  exact g_retI C X10 K d13_46 (by decide) (by decide) e10 ⟨rfl, N10, K10, f12⟩
def Q12_4 (Z : State) (o1 : Addr) (kd1 : ClassId) (c1 : Int32) (c2 : Int32) (c3 : Int32) (c4 : Int32) (h0 : Heap) (n0 : Nat) (v : Option Value) (h : Heap) (L : List Loc) : Prop := ∃ (o3 : Addr) (kd3 : ClassId), v = some (.ref o3) ∧ Fr n0 L ∧ h0.size ≤ o3 ∧ Keep h0 h [] ∧ Arv Z h o3 kd3 .byte 4 [(.int (nar .byte c1.toInt8.toInt32)), (.int (nar .byte c2.toInt8.toInt32)), (.int (nar .byte c3.toInt8.toInt32)), (.int (nar .byte c4.toInt8.toInt32))] (.int 0)
theorem rm12_4 {o1 : Addr} {kd1 : ClassId} {c1 c2 c3 c4 : Int32} (hw : OwnW a0 Z) (Z0 : n0 ≤ h0.size) (F0 : Arv Z h0 o1 kd1 .char 4 [(.int c1), (.int c2), (.int c3), (.int c4)] (.int 0)) (la1 : ¬ (255 : Int32) < c1) (la2 : ¬ (255 : Int32) < c2) (la3 : ¬ (255 : Int32) < c3) (la4 : ¬ (255 : Int32) < c4) : OwnMF l Z y12 jdk_52_method_16_code 6 (some (.array .byte)) ws ⟨1, 1, 4, 18⟩ #[(.ref o1), (.int 0), (.int 4)] h0 (Q12_4 Z o1 kd1 c1 c2 c3 c4 h0 n0) := by
  refine bo (plainFor_of_name pn_12) ?_
  intro p e s m below meth c T0 G C hnm hnamed X0 e0 K
  have N0 := Fr.nil n0
  refine Goes.to (congrArg T0.setTop (ef_12rii m o1 (0 : Int32) (4 : Int32))) ?_
  have K00 := Keep.refl h0 []
  refine g_iloadN C X0 d12_0 1 rfl ?_
  refine g_newA (aty := .byte) (n := (4 : Int32)) C X0 (cap := 4) (w_20 hw) e0 d12_1 3 (by decide) (by decide) (by decide) (by decide) (by decide) (fun T1 h1 b1 ki1 X1 e1 g1 E1 A1 => ?_)
  have n2 : o1 ≠ b1 := Nat.ne_of_lt (Nat.lt_of_lt_of_eq F0.lt g1.symm)
  have f3 := F0.ext E1
  have gn_b1 : n0 ≤ b1 := Nat.le_trans Z0 (Nat.le_of_eq g1.symm)
  have Z1 := Nat.le_trans Z0 E1.1
  have sz_b1 : h0.size ≤ b1 := Nat.le_trans K00.1 (Nat.le_of_eq g1.symm)
  have K1 := K00.ext E1
  have f4 : Arv Z h1 b1 ki1 .byte 4 [(.int 0), (.int 0), (.int 0), (.int 0)] (.int 0) := A1.pad (pad_rep [] (.int 0) 4)
  refine g_astoreN C X1 d12_3 4 rfl (ls' := #[rv o1, iv 0, iv 4, rv b1, uu, uu]) rfl ?_
  refine g_aloadN C X1 d12_4 5 rfl rfl ?_
  refine g_iloadN C X1 d12_5 6 rfl ?_
  refine g_aloadN C X1 d12_6 7 rfl rfl ?_
  refine g_iconst C X1 d12_7 8 (v := 0) rfl ?_
  refine g_iloadN C X1 d12_8 9 rfl ?_
  refine g_callS C X1 (w_65 hw) (w_66 hw) (w_63 hw) (w_67 hw) d12_9 [(.ref o1), (.int 0), (.ref b1), (.int 0), (.int 4)] [] 0 (rm13_4 hw Z1 f3 f4 gn_b1 la1 la2 la3 la4 n2) pd_16 e1 12 (fun u5 T5 L5 X5 hQ5 => ?_)
  obtain ⟨rfl, Nq5, Kq5, q5_0⟩ := hQ5
  have N5 := Fr.app N0 Nq5
  have K5 := K1.trans Kq5 (allS (Or.inr sz_b1) all0)
  refine ret1 ?_
  refine g_istore C X5 d12_12 14 (w := 4) rfl (ls' := #[rv o1, iv 0, iv 4, rv b1, iv 4, uu]) rfl ?_
  refine g_iload C X5 d12_14 16 rfl ?_
  refine g_iloadN C X5 d12_16 17 rfl ?_
  refine g_icmp_eq C X5 d12_17 57 20 (fun hc17 => ?_) (fun hc17 => absurd hc17 (by decide))
  refine g_aloadN C X5 d12_57 58 rfl rfl ?_
  exact g_retA C X5 K rfl rfl rfl d12_58 (by decide) (by decide) rfl ⟨b1, ki1, rfl, N5, sz_b1, K5, q5_0⟩
theorem rm14_4 {o1 : Addr} {kd1 : ClassId} {c1 c2 c3 c4 : Int32} (hw : OwnW a0 Z) (Z0 : n0 ≤ h0.size) (F0 : Arv Z h0 o1 kd1 .byte 4 [(.int c1), (.int c2), (.int c3), (.int c4)] (.int 0)) : OwnMF l Z y14 jdk_52_method_15_code 2 (some .byte) ws ⟨0, 0, 0, 0⟩ #[(.ref o1), (.int 4)] h0 (OwnQ (some (.int 0)) h0 n0) := by
  refine bo (plainFor_of_name pn_12) ?_
  intro p e s m below meth c T0 G C hnm hnamed X0 e0 K
  have N0 := Fr.nil n0
  refine Goes.to (congrArg T0.setTop (ef_14ri m o1 (4 : Int32))) ?_
  refine g_iloadN C X0 d14_0 1 rfl ?_
  refine g_aloadN C X0 d14_1 2 rfl rfl ?_
  refine g_arraylength C X0 e0 F0 d14_2 3 ?_
  refine g_isub C X0 d14_3 4 ?_
  rw [show (4 : Int32) - 4 = 0 from by decide]
  refine g_bipush C X0 d14_4 6 (v := 31) rfl ?_
  refine g_iushr C X0 d14_6 7 ?_
  refine g_i2b C X0 d14_7 8 ?_
  exact g_retN C X0 K (by simp) d14_8 (by decide) (by decide) e0 ⟨(by decide), N0, rfl⟩
def Q3_4 (Z : State) (o1 : Addr) (o2 : Addr) (kd1 : ClassId) (c1 : Int32) (c2 : Int32) (c3 : Int32) (c4 : Int32) (cs1 : Int32) (h0 : Heap) (n0 : Nat) (v : Option Value) (h : Heap) (L : List Loc) : Prop := ∃ (o3 : Addr) (kd3 : ClassId), v = none ∧ Fr n0 L ∧ h0.size ≤ o3 ∧ Keep h0 h [o1] ∧ OEs Z h o1 ∧ OFv Z h o1 (.ref o3) ∧ OFc Z h o1 ∧ Arv Z h o3 kd3 .byte 4 [(.int (nar .byte c1.toInt8.toInt32)), (.int (nar .byte c2.toInt8.toInt32)), (.int (nar .byte c3.toInt8.toInt32)), (.int (nar .byte c4.toInt8.toInt32))] (.int 0)
theorem rm3_4 {o1 o2 : Addr} {kd1 : ClassId} {c1 c2 c3 c4 cs1 : Int32} (hw : OwnW a0 Z) (Z0 : n0 ≤ h0.size) (F0 : OEs Z h0 o1) (F1 : OFv Z h0 o1 .null) (F2 : OFc Z h0 o1) (F3 : Arv Z h0 o2 kd1 .char 4 [(.int c1), (.int c2), (.int c3), (.int c4)] (.int 0)) (F4 : OSc Z h0 cs1) (gn_o1 : n0 ≤ o1) (la1 : ¬ (255 : Int32) < c1) (la2 : ¬ (255 : Int32) < c2) (la3 : ¬ (255 : Int32) < c3) (la4 : ¬ (255 : Int32) < c4) (hcs : ¬ cs1 = (0 : Int32)) (ne_o1_o2 : o1 ≠ o2) : OwnMF l Z y3 jdk_42_method_149_code 6 none ws ⟨2, 1, 4, 35⟩ #[(.ref o1), (.ref o2), (.int 0), (.int 4), .null] h0 (Q3_4 Z o1 o2 kd1 c1 c2 c3 c4 cs1 h0 n0) := by
  refine bo (plainFor_of_name pn_2) ?_
  intro p e s m below meth c T0 G C hnm hnamed X0 e0 K
  have N0 := Fr.nil n0
  refine Goes.to (congrArg T0.setTop (ef_3rriin m o1 o2 (0 : Int32) (4 : Int32))) ?_
  have K00 := Keep.refl h0 [o1]
  refine g_aloadN C X0 d3_0 1 rfl rfl ?_
  refine g_initO C X0 (w_16 hw) (w_17 hw) (w_18 hw) e0 rfl d3_1 4 (by decide) (W := 0) (Nat.le_of_eq rfl) (by decide) (fun T1 X1 e1 => ?_)
  refine g_iloadN C X1 d3_4 5 rfl ?_
  refine g_if_ne C X1 d3_5 27 8 (fun hc5 => ?_) (fun hc5 => absurd hc5 (by decide))
  refine g_getS C X1 (w_45 hw) Via.refl e1 F4 d3_27 30 (fun T2 X2 e2 => ?_)
  refine g_if_eq C X2 d3_30 58 33 (fun hc30 => absurd hc30 hcs) (fun hc30 => ?_)
  refine g_aloadN C X2 d3_33 34 rfl rfl ?_
  refine g_iloadN C X2 d3_34 35 rfl ?_
  refine g_iloadN C X2 d3_35 36 rfl ?_
  refine g_callS C X2 (w_61 hw) (w_62 hw) (w_63 hw) (w_64 hw) d3_36 [(.ref o2), (.int 0), (.int 4)] [] 0 (rm12_4 hw Z0 F3 la1 la2 la3 la4) pd_17 e2 39 (fun u3 T3 L3 X3 hQ3 => ?_)
  obtain ⟨o33, kd33, rfl, Nq3, szo33, Kq3, q3_0⟩ := hQ3
  have N3 := Fr.app N0 Nq3
  have n4 : o1 ≠ o33 := Nat.ne_of_lt (Nat.lt_of_lt_of_le F0.lt szo33)
  have f6 := F0.keep Kq3
  have f7 := F1.keep Kq3 nin0
  have f8 := F2.keep Kq3 nin0
  have Z3 := Nat.le_trans Z0 Kq3.1
  have sz_o33 : h0.size ≤ o33 := Nat.le_trans K00.1 szo33
  have K3 := K00.trans Kq3 all0
  refine ret1 ?_
  refine g_astore C X3 d3_39 41 rfl (ls' := #[rv o1, rv o2, iv 0, iv 4, nv, rv o33]) rfl ?_
  refine g_aloadN C X3 d3_41 42 rfl rfl ?_
  refine g_aload C X3 d3_42 44 rfl rfl ?_
  refine g_iloadN C X3 d3_44 45 rfl ?_
  refine g_callS0 C X3 (b_14 hw) d3_45 [(.ref o33), (.int 4)] [(.ref o1)] 1 (rm14_4 hw Z3 q3_0) N3 pd_18 rfl 48 (fun T11 _ X11 N11 e11 => ?_)
  refine g_putFN C X11 (w_26 hw) Via.refl e11 f8 f6 (Or.inr ⟨(w_22 hw), rfl, hnm⟩) (w_7 hw) (ty := .byte) (by decide) (v' := (.int 0)) (by decide) (by decide) d3_48 51 (fun T12 h12 X12 e12 W12 => ?_)
  have f13 := f6.wr W12
  have f14 := f7.other W12 (Or.inr (slot_ne (Or.inr (w_21 hw)) (Or.inr (w_22 hw)) (by decide) (t := (.array .byte)) (t' := .byte) (by decide) (by decide)))
  have f15 := f8.same W12
  have f18 := q3_0.other W12 (Ne.symm n4)
  have N12 := Fr.snoc X12 N11 gn_o1
  have K12 := K3.wr W12 (Or.inl (List.mem_of_getElem? (i := 0) rfl))
  refine g_aloadN C X12 d3_51 52 rfl rfl ?_
  refine g_aload C X12 d3_52 54 rfl rfl ?_
  refine g_putF C X12 (w_25 hw) Via.refl e12 f14 f13 (Or.inr ⟨(w_21 hw), rfl, hnm⟩) (w_7 hw) (ty := (.array .byte)) (by decide) rfl rfl d3_54 57 (fun T19 h19 X19 e19 W19 => ?_)
  have f20 := f13.wr W19
  have f21 := f14.same W19
  have f22 := f15.other W19 (Or.inr (slot_ne (Or.inr (w_22 hw)) (Or.inr (w_21 hw)) (by decide) (t := .byte) (t' := (.array .byte)) (by decide) (by decide)))
  have f25 := f18.other W19 (Ne.symm n4)
  have N19 := Fr.snoc X19 N12 gn_o1
  have K19 := K12.wr W19 (Or.inl (List.mem_of_getElem? (i := 0) rfl))
  exact g_retV C X19 K d3_57 (by decide) (by decide) e19 ⟨o33, kd33, rfl, N19, sz_o33, K19, f20, f21, f22, f25⟩
def Q2_4 (Z : State) (o1 : Addr) (o2 : Addr) (kd1 : ClassId) (c1 : Int32) (c2 : Int32) (c3 : Int32) (c4 : Int32) (cs1 : Int32) (h0 : Heap) (n0 : Nat) (v : Option Value) (h : Heap) (L : List Loc) : Prop := ∃ (o3 : Addr) (kd3 : ClassId), v = none ∧ Fr n0 L ∧ h0.size ≤ o3 ∧ Keep h0 h [o1] ∧ OEs Z h o1 ∧ OFv Z h o1 (.ref o3) ∧ OFc Z h o1 ∧ Arv Z h o3 kd3 .byte 4 [(.int (nar .byte c1.toInt8.toInt32)), (.int (nar .byte c2.toInt8.toInt32)), (.int (nar .byte c3.toInt8.toInt32)), (.int (nar .byte c4.toInt8.toInt32))] (.int 0)
theorem rm2_4 {o1 o2 : Addr} {kd1 : ClassId} {c1 c2 c3 c4 cs1 : Int32} (hw : OwnW a0 Z) (Z0 : n0 ≤ h0.size) (F0 : OEs Z h0 o1) (F1 : OFv Z h0 o1 .null) (F2 : OFc Z h0 o1) (F3 : Arv Z h0 o2 kd1 .char 4 [(.int c1), (.int c2), (.int c3), (.int c4)] (.int 0)) (F4 : OSc Z h0 cs1) (gn_o1 : n0 ≤ o1) (la1 : ¬ (255 : Int32) < c1) (la2 : ¬ (255 : Int32) < c2) (la3 : ¬ (255 : Int32) < c3) (la4 : ¬ (255 : Int32) < c4) (hcs : ¬ cs1 = (0 : Int32)) (ne_o1_o2 : o1 ≠ o2) : OwnMF l Z y2 jdk_42_method_3_code 2 none ws ⟨3, 1, 4, 52⟩ #[(.ref o1), (.ref o2)] h0 (Q2_4 Z o1 o2 kd1 c1 c2 c3 c4 cs1 h0 n0) := by
  refine bo (plainFor_of_name pn_2) ?_
  intro p e s m below meth c T0 G C hnm hnamed X0 e0 K
  have N0 := Fr.nil n0
  refine Goes.to (congrArg T0.setTop (ef_2rr m o1 o2)) ?_
  have K00 := Keep.refl h0 [o1]
  refine g_aloadN C X0 d2_0 1 rfl rfl ?_
  refine g_aloadN C X0 d2_1 2 rfl rfl ?_
  refine g_iconst C X0 d2_2 3 (v := 0) rfl ?_
  refine g_aloadN C X0 d2_3 4 rfl rfl ?_
  refine g_arraylength C X0 e0 F3 d2_4 5 ?_
  refine g_aconstNull C X0 d2_5 6 ?_
  refine g_callI C X0 rfl (w_12 hw) (w_13 hw) (w_8 hw) (w_15 hw) d2_6 [(.ref o2), (.int 0), (.int 4), .null] [] 0 (rm3_4 hw Z0 F0 F1 F2 F3 F4 gn_o1 la1 la2 la3 la4 hcs ne_o1_o2) pd_15 e0 9 (fun u1 T1 L1 X1 hQ1 => ?_)
  obtain ⟨o31, kd31, rfl, Nq1, szo31, Kq1, q1_0, q1_1, q1_2, q1_3⟩ := hQ1
  have N1 := Fr.app N0 Nq1
  have sz_o31 : h0.size ≤ o31 := Nat.le_trans K00.1 szo31
  have K1 := K00.trans Kq1 (allS (Or.inl (List.mem_of_getElem? (i := 0) rfl)) all0)
  refine ret0 ?_
  exact g_retV C X1 K d2_9 (by decide) (by decide) rfl ⟨o31, kd31, rfl, N1, sz_o31, K1, q1_0, q1_1, q1_2, q1_3⟩
theorem ef_0iiiii (m : MethodId) (a1 : Int32) (a2 : Int32) (a3 : Int32) (a4 : Int32) (a5 : Int32) : entryFrame m #[(.int a1), (.int a2), (.int a3), (.int a4), (.int a5)] maxLocals = mkF m 0 #[iv a1, iv a2, iv a3, iv a4, iv a5, uu, uu, uu, uu, uu, uu, uu, uu, uu, uu, uu, uu] [] := by first | (simp [entryFrame, mkF, argsToLocals, Value.category, iv, rv, jv, nv, uu, sd, maxLocals]; done) | rfl
theorem w_0 {Z : State} {a0 : Array Value} (hw : ∀ d ∈ tables_1, d.before a0 Z = true) : Jvm.Cond.before (Jvm.Cond.constant "com/example/firer/firer/formats/XmlSpaceTrimPinLaw" (7 : Nat) (2147483647 : Int32)) a0 Z = true := hw _ (List.mem_of_getElem? (i := 0) rfl)
theorem w_4 {Z : State} {a0 : Array Value} (hw : ∀ d ∈ tables_1, d.before a0 Z = true) : Jvm.Cond.before (Jvm.Cond.code ({ cls := "com/example/firer/firer/formats/XmlSpaceTrimPinLaw", name := "pick", desc := "(I)C" } : Jvm.MethodName) method_2_code (2 : Nat) (Option.some Jvm.ClassFile.FieldType.char)) a0 Z = true := hw _ (List.mem_of_getElem? (i := 4) rfl)
theorem w_3 {Z : State} {a0 : Array Value} (hw : ∀ d ∈ tables_1, d.before a0 Z = true) : Jvm.Cond.before (Jvm.Cond.initialized "com/example/firer/firer/formats/XmlSpaceTrimPinLaw") a0 Z = true := hw _ (List.mem_of_getElem? (i := 3) rfl)
theorem w_1 {Z : State} {a0 : Array Value} (hw : ∀ d ∈ tables_1, d.before a0 Z = true) : Jvm.Cond.before (Jvm.Cond.methodLink "com/example/firer/firer/formats/XmlSpaceTrimPinLaw" (8 : Nat) ({ cls := "com/example/firer/firer/formats/XmlSpaceTrimPinLaw", name := "pick", desc := "(I)C" } : Jvm.MethodName)) a0 Z = true := hw _ (List.mem_of_getElem? (i := 1) rfl)
theorem w_2 {Z : State} {a0 : Array Value} (hw : ∀ d ∈ tables_1, d.before a0 Z = true) : Jvm.Cond.before (Jvm.Cond.static ({ cls := "com/example/firer/firer/formats/XmlSpaceTrimPinLaw", name := "pick", desc := "(I)C" } : Jvm.MethodName)) a0 Z = true := hw _ (List.mem_of_getElem? (i := 2) rfl)
theorem b_15 (hw : OwnW a0 Z) : CallS "com/example/firer/firer/formats/XmlSpaceTrimPinLaw" 8 (⟨"com/example/firer/firer/formats/XmlSpaceTrimPinLaw", "pick", "(I)C"⟩ : MethodName) method_2_code (2 : Nat) (Option.some Jvm.ClassFile.FieldType.char) a0 Z := ⟨(w_1 hw), (w_2 hw), (w_3 hw), (w_4 hw)⟩
theorem w_5 {Z : State} {a0 : Array Value} (hw : ∀ d ∈ tables_1, d.before a0 Z = true) : Jvm.Cond.before (Jvm.Cond.arrayClass Jvm.ClassFile.FieldType.char) a0 Z = true := hw _ (List.mem_of_getElem? (i := 5) rfl)
theorem w_6 {Z : State} {a0 : Array Value} (hw : ∀ d ∈ tables_1, d.before a0 Z = true) : Jvm.Cond.before (Jvm.Cond.classLink "com/example/firer/firer/formats/XmlSpaceTrimPinLaw" (14 : Nat) "java/lang/String") a0 Z = true := hw _ (List.mem_of_getElem? (i := 6) rfl)
theorem w_11 {Z : State} {a0 : Array Value} (hw : ∀ d ∈ tables_1, d.before a0 Z = true) : Jvm.Cond.before (Jvm.Cond.code ({ cls := "java/lang/String", name := "<init>", desc := "([C)V" } : Jvm.MethodName) jdk_42_method_3_code (2 : Nat) (Option.none : Option Jvm.ClassFile.FieldType)) a0 Z = true := hw _ (List.mem_of_getElem? (i := 11) rfl)
theorem w_9 {Z : State} {a0 : Array Value} (hw : ∀ d ∈ tables_1, d.before a0 Z = true) : Jvm.Cond.before (Jvm.Cond.methodLink "com/example/firer/firer/formats/XmlSpaceTrimPinLaw" (16 : Nat) ({ cls := "java/lang/String", name := "<init>", desc := "([C)V" } : Jvm.MethodName)) a0 Z = true := hw _ (List.mem_of_getElem? (i := 9) rfl)
theorem pd_19 : parseMethodDescriptor "([C)V" = some ⟨[(.array .char)], none⟩ := by decide +kernel
theorem w_10 {Z : State} {a0 : Array Value} (hw : ∀ d ∈ tables_1, d.before a0 Z = true) : Jvm.Cond.before (Jvm.Cond.instanceMethod ({ cls := "java/lang/String", name := "<init>", desc := "([C)V" } : Jvm.MethodName)) a0 Z = true := hw _ (List.mem_of_getElem? (i := 10) rfl)
theorem w_30 {Z : State} {a0 : Array Value} (hw : ∀ d ∈ tables_1, d.before a0 Z = true) : Jvm.Cond.before (Jvm.Cond.code ({ cls := "java/lang/Math", name := "max", desc := "(II)I" } : Jvm.MethodName) jdk_29_method_65_code (2 : Nat) (Option.some Jvm.ClassFile.FieldType.int)) a0 Z = true := hw _ (List.mem_of_getElem? (i := 30) rfl)
theorem w_27 {Z : State} {a0 : Array Value} (hw : ∀ d ∈ tables_1, d.before a0 Z = true) : Jvm.Cond.before (Jvm.Cond.methodLink "com/example/firer/firer/formats/XmlSpaceTrimPinLaw" (23 : Nat) ({ cls := "java/lang/Math", name := "max", desc := "(II)I" } : Jvm.MethodName)) a0 Z = true := hw _ (List.mem_of_getElem? (i := 27) rfl)
theorem w_28 {Z : State} {a0 : Array Value} (hw : ∀ d ∈ tables_1, d.before a0 Z = true) : Jvm.Cond.before (Jvm.Cond.static ({ cls := "java/lang/Math", name := "max", desc := "(II)I" } : Jvm.MethodName)) a0 Z = true := hw _ (List.mem_of_getElem? (i := 28) rfl)
theorem b_16 (hw : OwnW a0 Z) : CallS "com/example/firer/firer/formats/XmlSpaceTrimPinLaw" 23 (⟨"java/lang/Math", "max", "(II)I"⟩ : MethodName) jdk_29_method_65_code (2 : Nat) (Option.some Jvm.ClassFile.FieldType.int) a0 Z := ⟨(w_27 hw), (w_28 hw), (w_29 hw), (w_30 hw)⟩
theorem w_34 {Z : State} {a0 : Array Value} (hw : ∀ d ∈ tables_1, d.before a0 Z = true) : Jvm.Cond.before (Jvm.Cond.code ({ cls := "com/example/firer/firer/formats/XmlSpace", name := "trim", desc := "(Ljava/lang/String;)Ljava/lang/String;" } : Jvm.MethodName) prog_35_method_2_code (3 : Nat) (Option.some (Jvm.ClassFile.FieldType.object "java/lang/String"))) a0 Z = true := hw _ (List.mem_of_getElem? (i := 34) rfl)
theorem w_31 {Z : State} {a0 : Array Value} (hw : ∀ d ∈ tables_1, d.before a0 Z = true) : Jvm.Cond.before (Jvm.Cond.methodLink "com/example/firer/firer/formats/XmlSpaceTrimPinLaw" (29 : Nat) ({ cls := "com/example/firer/firer/formats/XmlSpace", name := "trim", desc := "(Ljava/lang/String;)Ljava/lang/String;" } : Jvm.MethodName)) a0 Z = true := hw _ (List.mem_of_getElem? (i := 31) rfl)
theorem pd_20 : parseMethodDescriptor "(Ljava/lang/String;)Ljava/lang/String;" = some ⟨[(.object "java/lang/String")], some (.object "java/lang/String")⟩ := by decide +kernel
theorem w_32 {Z : State} {a0 : Array Value} (hw : ∀ d ∈ tables_1, d.before a0 Z = true) : Jvm.Cond.before (Jvm.Cond.static ({ cls := "com/example/firer/firer/formats/XmlSpace", name := "trim", desc := "(Ljava/lang/String;)Ljava/lang/String;" } : Jvm.MethodName)) a0 Z = true := hw _ (List.mem_of_getElem? (i := 32) rfl)
theorem b_17 (hw : OwnW a0 Z) : CallS "com/example/firer/firer/formats/XmlSpaceTrimPinLaw" 29 (⟨"com/example/firer/firer/formats/XmlSpace", "trim", "(Ljava/lang/String;)Ljava/lang/String;"⟩ : MethodName) prog_35_method_2_code (3 : Nat) (Option.some (Jvm.ClassFile.FieldType.object "java/lang/String")) a0 Z := ⟨(w_31 hw), (w_32 hw), (w_33 hw), (w_34 hw)⟩
theorem w_60 {Z : State} {a0 : Array Value} (hw : ∀ d ∈ tables_1, d.before a0 Z = true) : Jvm.Cond.before (Jvm.Cond.methodLink "com/example/firer/firer/formats/XmlSpaceTrimPinLaw" (35 : Nat) ({ cls := "java/lang/String", name := "length", desc := "()I" } : Jvm.MethodName)) a0 Z = true := hw _ (List.mem_of_getElem? (i := 60) rfl)
theorem b_18 (hw : OwnW a0 Z) : CallV "com/example/firer/firer/formats/XmlSpaceTrimPinLaw" 35 (⟨"java/lang/String", "length", "()I"⟩ : MethodName) "java/lang/String" jdk_42_method_54_code (1 : Nat) (Option.some Jvm.ClassFile.FieldType.int) a0 Z := ⟨(w_60 hw), (w_36 hw), (w_38 hw), (w_37 hw), (w_39 hw), (w_8 hw)⟩
theorem w_73 {Z : State} {a0 : Array Value} (hw : ∀ d ∈ tables_1, d.before a0 Z = true) : Jvm.Cond.before (Jvm.Cond.code ({ cls := "com/example/firer/firer/formats/XmlSpaceTrimPinLaw", name := "sp", desc := "(C)Z" } : Jvm.MethodName) method_3_code (1 : Nat) (Option.some Jvm.ClassFile.FieldType.boolean)) a0 Z = true := hw _ (List.mem_of_getElem? (i := 73) rfl)
theorem w_71 {Z : State} {a0 : Array Value} (hw : ∀ d ∈ tables_1, d.before a0 Z = true) : Jvm.Cond.before (Jvm.Cond.methodLink "com/example/firer/firer/formats/XmlSpaceTrimPinLaw" (19 : Nat) ({ cls := "com/example/firer/firer/formats/XmlSpaceTrimPinLaw", name := "sp", desc := "(C)Z" } : Jvm.MethodName)) a0 Z = true := hw _ (List.mem_of_getElem? (i := 71) rfl)
theorem w_72 {Z : State} {a0 : Array Value} (hw : ∀ d ∈ tables_1, d.before a0 Z = true) : Jvm.Cond.before (Jvm.Cond.static ({ cls := "com/example/firer/firer/formats/XmlSpaceTrimPinLaw", name := "sp", desc := "(C)Z" } : Jvm.MethodName)) a0 Z = true := hw _ (List.mem_of_getElem? (i := 72) rfl)
theorem b_19 (hw : OwnW a0 Z) : CallS "com/example/firer/firer/formats/XmlSpaceTrimPinLaw" 19 (⟨"com/example/firer/firer/formats/XmlSpaceTrimPinLaw", "sp", "(C)Z"⟩ : MethodName) method_3_code (1 : Nat) (Option.some Jvm.ClassFile.FieldType.boolean) a0 Z := ⟨(w_71 hw), (w_72 hw), (w_3 hw), (w_73 hw)⟩
theorem w_97 {Z : State} {a0 : Array Value} (hw : ∀ d ∈ tables_1, d.before a0 Z = true) : Jvm.Cond.before (Jvm.Cond.methodLink "com/example/firer/firer/formats/XmlSpaceTrimPinLaw" (39 : Nat) ({ cls := "java/lang/String", name := "charAt", desc := "(I)C" } : Jvm.MethodName)) a0 Z = true := hw _ (List.mem_of_getElem? (i := 97) rfl)
theorem b_20 (hw : OwnW a0 Z) : CallV "com/example/firer/firer/formats/XmlSpaceTrimPinLaw" 39 (⟨"java/lang/String", "charAt", "(I)C"⟩ : MethodName) "java/lang/String" jdk_42_method_56_code (2 : Nat) (Option.some Jvm.ClassFile.FieldType.char) a0 Z := ⟨(w_97 hw), (w_75 hw), (w_77 hw), (w_76 hw), (w_78 hw), (w_8 hw)⟩
def Q0 (Z : State) (p0 : Int32) (p1 : Int32) (p2 : Int32) (p3 : Int32) (p4 : Int32) (cs1 : Int32) (wf1 : Value) (h0 : Heap) (n0 : Nat) (v : Option Value) (h : Heap) (L : List Loc) : Prop := v = some (.int 1) ∧ Fr n0 L
set_option maxRecDepth 65536 in
set_option maxHeartbeats 40000000 in
theorem rm0 (l : Launch) (Z : State) (a0 : Array Value) (hw : ∀ d ∈ tables_1, d.before a0 Z = true) (ws : List Jvm.Cond) (p0 : Int32) (p1 : Int32) (p2 : Int32) (p3 : Int32) (p4 : Int32) (cs1 : Int32) (wf1 : Value) (h0 : Heap) (n0 : Nat) (Z0 : n0 ≤ h0.size) (hEL : EW Z a0 EL) (F0 : OSc Z h0 cs1) (F1 : OSf Z h0 wf1) (hcs : ¬ cs1 = (0 : Int32)) (hwf : wf1.isRef = true) :
    OwnMFH l Z EL x code maxLocals ret ws room_1 #[(.int p0), (.int p1), (.int p2), (.int p3), (.int p4)] h0 (Q0 Z p0 p1 p2 p3 p4 cs1 wf1 h0 n0) := by
  refine body_ofH (y := x) (Q := Q0 Z p0 p1 p2 p3 p4 cs1 wf1 h0 n0) (plainFor_of_name pn_0) ?_
  intro p e s m below meth c T0 G C hnm hnamed X0 e0 hh0 hS0 H0_ R0_ K
  have N0 := Fr.nil n0
  refine Goes.to (congrArg T0.setTop (ef_0iiiii m p0 p1 p2 p3 p4)) ?_
  refine g_iloadN C X0 at_0 1 rfl ?_
  refine g_ldc C X0 (w_0 hw) at_1 3 ?_
  refine g_iand C X0 at_3 4 ?_
  refine g_iconst C X0 at_4 5 (v := 5) rfl ?_
  refine g_irem C X0 at_5 6 (by decide) ?_
  obtain ⟨v1, hv1⟩ : ∃ z : Int32, ((p0 &&& (2147483647 : Int32)) % (5 : Int32)) = z := ⟨_, rfl⟩
  refine g_istore C X0 at_6 8 (w := v1) hv1 (ls' := #[iv p0, iv p1, iv p2, iv p3, iv p4, iv v1, uu, uu, uu, uu, uu, uu, uu, uu, uu, uu, uu]) rfl ?_
  refine g_iloadN C X0 at_8 9 rfl ?_
  refine g_callS0 C X0 (b_15 hw) at_9 [(.int p1)] [] 0 (rm1 hw Z0) N0 pd_9 e0 12 (fun T2 _ X2 N2 e2 => ?_)
  obtain ⟨r2, hr2⟩ : ∃ z : Int32, fPick p1 = z := ⟨_, rfl⟩
  rw [hr2]
  refine g_istore C X2 at_12 14 (w := r2) rfl (ls' := #[iv p0, iv p1, iv p2, iv p3, iv p4, iv v1, iv r2, uu, uu, uu, uu, uu, uu, uu, uu, uu, uu]) rfl ?_
  refine g_iloadN C X2 at_14 15 rfl ?_
  refine g_callS0 C X2 (b_15 hw) at_15 [(.int p2)] [] 0 (rm1 hw Z0) N2 pd_9 e2 18 (fun T3 _ X3 N3 e3 => ?_)
  obtain ⟨r3, hr3⟩ : ∃ z : Int32, fPick p2 = z := ⟨_, rfl⟩
  rw [hr3]
  refine g_istore C X3 at_18 20 (w := r3) rfl (ls' := #[iv p0, iv p1, iv p2, iv p3, iv p4, iv v1, iv r2, iv r3, uu, uu, uu, uu, uu, uu, uu, uu, uu]) rfl ?_
  refine g_iloadN C X3 at_20 21 rfl ?_
  refine g_callS0 C X3 (b_15 hw) at_21 [(.int p3)] [] 0 (rm1 hw Z0) N3 pd_9 e3 24 (fun T4 _ X4 N4 e4 => ?_)
  obtain ⟨r4, hr4⟩ : ∃ z : Int32, fPick p3 = z := ⟨_, rfl⟩
  rw [hr4]
  refine g_istore C X4 at_24 26 (w := r4) rfl (ls' := #[iv p0, iv p1, iv p2, iv p3, iv p4, iv v1, iv r2, iv r3, iv r4, uu, uu, uu, uu, uu, uu, uu, uu]) rfl ?_
  refine g_iload C X4 at_26 28 rfl ?_
  refine g_callS0 C X4 (b_15 hw) at_28 [(.int p4)] [] 0 (rm1 hw Z0) N4 pd_9 e4 31 (fun T5 _ X5 N5 e5 => ?_)
  obtain ⟨r5, hr5⟩ : ∃ z : Int32, fPick p4 = z := ⟨_, rfl⟩
  rw [hr5]
  refine g_istore C X5 at_31 33 (w := r5) rfl (ls' := #[iv p0, iv p1, iv p2, iv p3, iv p4, iv v1, iv r2, iv r3, iv r4, iv r5, uu, uu, uu, uu, uu, uu, uu]) rfl ?_
  refine g_iconst C X5 at_33 34 (v := 4) rfl ?_
  refine g_newA (aty := .char) (n := (4 : Int32)) C X5 (cap := 4) (w_5 hw) e5 at_34 36 (by decide) (by decide) (by decide) (by decide) (by decide) (fun T6 h6 b6 ki6 X6 e6 g6 E6 A6 => ?_)
  have f7 := F0.ext E6
  have f8 := F1.ext E6
  have gn_b6 : n0 ≤ b6 := Nat.le_trans Z0 (Nat.le_of_eq g6.symm)
  have Z6 := Nat.le_trans Z0 E6.1
  have hk6 := Nat.le_trans (Nat.zero_le _) E6.1
  have H_6 := H0_.ext E6
  have R_6 := R0_.trans (CHr.ext E6 H0_)
  have f9 : Arv Z h6 b6 ki6 .char 4 [(.int 0), (.int 0), (.int 0), (.int 0)] (.int 0) := A6.pad (pad_rep [] (.int 0) 4)
  refine g_dup C X6 at_36 37 rfl ?_
  refine g_iconst C X6 at_37 38 (v := 0) rfl ?_
  refine g_iload C X6 at_38 40 rfl ?_
  refine g_castore C X6 (i := 0) e6 f9 (by decide) rfl (Nat.le_of_ble_eq_true rfl) at_40 41 (fun T10 h10 X10 e10 W10 A10 => ?_)
  have f11 := f7.wr W10
  have f12 := f8.wr W10
  have f13 : Arv Z h10 b6 ki6 .char 4 [(.int (nar .char r2)), (.int 0), (.int 0), (.int 0)] (.int 0) := A10
  have N10 := Fr.snoc X10 N5 gn_b6
  have Z10 := Nat.le_trans Z6 (Nat.le_of_eq W10.size.symm)
  have hk10 := Nat.le_trans hk6 (Nat.le_of_eq W10.size.symm)
  have H_10 := H_6.wr W10 (safe_arv C.2.1.alike f9 (by decide))
  have R_10 := R_6.trans (CHr.wr W10 (safe_arv C.2.1.alike f9 (by decide)) H_6)
  refine g_dup C X10 at_41 42 rfl ?_
  refine g_iconst C X10 at_42 43 (v := 1) rfl ?_
  refine g_iload C X10 at_43 45 rfl ?_
  refine g_castore C X10 (i := 1) e10 f13 (by decide) rfl (Nat.le_of_ble_eq_true rfl) at_45 46 (fun T14 h14 X14 e14 W14 A14 => ?_)
  have f15 := f11.wr W14
  have f16 := f12.wr W14
  have f17 : Arv Z h14 b6 ki6 .char 4 [(.int (nar .char r2)), (.int (nar .char r3)), (.int 0), (.int 0)] (.int 0) := A14
  have N14 := Fr.snoc X14 N10 gn_b6
  have Z14 := Nat.le_trans Z10 (Nat.le_of_eq W14.size.symm)
  have hk14 := Nat.le_trans hk10 (Nat.le_of_eq W14.size.symm)
  have H_14 := H_10.wr W14 (safe_arv C.2.1.alike f13 (by decide))
  have R_14 := R_10.trans (CHr.wr W14 (safe_arv C.2.1.alike f13 (by decide)) H_10)
  refine g_dup C X14 at_46 47 rfl ?_
  refine g_iconst C X14 at_47 48 (v := 2) rfl ?_
  refine g_iload C X14 at_48 50 rfl ?_
  refine g_castore C X14 (i := 2) e14 f17 (by decide) rfl (Nat.le_of_ble_eq_true rfl) at_50 51 (fun T18 h18 X18 e18 W18 A18 => ?_)
  have f19 := f15.wr W18
  have f20 := f16.wr W18
  have f21 : Arv Z h18 b6 ki6 .char 4 [(.int (nar .char r2)), (.int (nar .char r3)), (.int (nar .char r4)), (.int 0)] (.int 0) := A18
  have N18 := Fr.snoc X18 N14 gn_b6
  have Z18 := Nat.le_trans Z14 (Nat.le_of_eq W18.size.symm)
  have hk18 := Nat.le_trans hk14 (Nat.le_of_eq W18.size.symm)
  have H_18 := H_14.wr W18 (safe_arv C.2.1.alike f17 (by decide))
  have R_18 := R_14.trans (CHr.wr W18 (safe_arv C.2.1.alike f17 (by decide)) H_14)
  refine g_dup C X18 at_51 52 rfl ?_
  refine g_iconst C X18 at_52 53 (v := 3) rfl ?_
  refine g_iload C X18 at_53 55 rfl ?_
  refine g_castore C X18 (i := 3) e18 f21 (by decide) rfl (Nat.le_of_ble_eq_true rfl) at_55 56 (fun T22 h22 X22 e22 W22 A22 => ?_)
  have f23 := f19.wr W22
  have f24 := f20.wr W22
  have f25 : Arv Z h22 b6 ki6 .char 4 [(.int (nar .char r2)), (.int (nar .char r3)), (.int (nar .char r4)), (.int (nar .char r5))] (.int 0) := A22
  have N22 := Fr.snoc X22 N18 gn_b6
  have Z22 := Nat.le_trans Z18 (Nat.le_of_eq W22.size.symm)
  have hk22 := Nat.le_trans hk18 (Nat.le_of_eq W22.size.symm)
  have H_22 := H_18.wr W22 (safe_arv C.2.1.alike f21 (by decide))
  have R_22 := R_18.trans (CHr.wr W22 (safe_arv C.2.1.alike f21 (by decide)) H_18)
  refine g_astore C X22 at_56 58 rfl (ls' := #[iv p0, iv p1, iv p2, iv p3, iv p4, iv v1, iv r2, iv r3, iv r4, iv r5, rv b6, uu, uu, uu, uu, uu, uu]) rfl ?_
  rcases own_r5 hv1 with hsp | hsp | hsp | hsp | hsp
  · subst hsp
    refine g_iload C X22 at_58 60 rfl ?_
    refine g_if_ne C X22 at_60 71 63 (fun hc60 => absurd hc60 (by decide)) (fun hc60 => ?_)
    refine g_iconst C X22 at_63 64 (v := 0) rfl ?_
    refine g_newA (aty := .char) (n := (0 : Int32)) C X22 (cap := 0) (w_5 hw) e22 at_64 66 (by decide) (by decide) (by decide) (by decide) (by decide) (fun T26 h26 b26 ki26 X26 e26 g26 E26 A26 => ?_)
    have f28 := f23.ext E26
    have f29 := f24.ext E26
    have Z26 := Nat.le_trans Z22 E26.1
    have hk26 := Nat.le_trans hk22 E26.1
    have H_26 := H_22.ext E26
    have R_26 := R_22.trans (CHr.ext E26 H_22)
    have f31 : Arv Z h26 b26 ki26 .char 0 [] (.int 0) := A26
    refine g_astore C X26 at_66 68 rfl (ls' := #[iv p0, iv p1, iv p2, iv p3, iv p4, iv 0, iv r2, iv r3, iv r4, iv r5, rv b6, rv b26, uu, uu, uu, uu, uu]) rfl ?_
    refine g_goto C X26 at_68 168 ?_
    refine g_new C X26 (w_6 hw) (w_7 hw) (w_8 hw) e26 at_168 171 (by decide) (by decide) (fun T32 h32 b32 X32 e32 g32 E32 A32 D32 => ?_)
    have n33 : b26 ≠ b32 := Nat.ne_of_lt (Nat.lt_of_lt_of_eq f31.lt g32.symm)
    have f35 := f28.ext E32
    have f36 := f29.ext E32
    have f38 := f31.ext E32
    have gn_b32 : n0 ≤ b32 := Nat.le_trans Z26 (Nat.le_of_eq g32.symm)
    have Z32 := Nat.le_trans Z26 E32.1
    have hk32 := Nat.le_trans hk26 E32.1
    have H_32 := H_26.ext E32
    have R_32 := R_26.trans (CHr.ext E32 H_26)
    have f39 : OFv Z h32 b32 .null := D32 (Or.inr (w_21 hw)) (ty := (.array .byte)) (by decide)
    have f40 : OFc Z h32 b32 := D32 (Or.inr (w_22 hw)) (ty := .byte) (by decide)
    refine g_dup C X32 at_171 172 rfl ?_
    refine g_aload C X32 at_172 174 rfl rfl ?_
    refine g_callIH C X32 hS0 hk32 hEL H_32 rfl (w_9 hw) (w_10 hw) (w_8 hw) (w_11 hw) at_174 [(.ref b26)] [(.ref b32)] 1 (rm2_0 hw Z32 hEL A32 f39 f40 f38 gn_b32 (Ne.symm n33)) pd_19 e32 177 (fun u41 T41 L41 C41 X41 hQ41 hS41 A41 => ?_)
    obtain ⟨o341, kd341, rfl, Nq41, Kq41, q41_0, q41_1, q41_2, q41_3⟩ := hQ41
    have N41 := Fr.app N22 Nq41
    have f42 := Sta.keepN f35 Kq41 (allS (Exa.ns A32) all0)
    have f43 := Sta.keepN f36 Kq41 (allS (Exa.ns A32) all0)
    have Z41 := Nat.le_trans Z32 Kq41.1
    have H_41 := A41.1
    have R_41 := R_32.trans A41
    refine ret0 ?_
    refine g_astore C41 X41 at_177 179 rfl (ls' := #[iv p0, iv p1, iv p2, iv p3, iv p4, iv 0, iv r2, iv r3, iv r4, iv r5, rv b6, rv b26, rv b32, uu, uu, uu, uu]) rfl ?_
    refine g_iload C41 X41 at_179 181 rfl ?_
    refine g_istore C41 X41 at_181 183 (w := 0) rfl (ls' := #[iv p0, iv p1, iv p2, iv p3, iv p4, iv 0, iv r2, iv r3, iv r4, iv r5, rv b6, rv b26, rv b32, iv 0, uu, uu, uu]) rfl ?_
    refine g_iload C41 X41 at_183 185 rfl ?_
    refine g_iconst C41 X41 at_185 186 (v := 3) rfl ?_
    refine g_icmp_le C41 X41 at_186 200 189 (fun hc186 => ?_) (fun hc186 => absurd hc186 (by decide))
    refine g_iload C41 X41 at_200 202 rfl ?_
    refine g_iconst C41 X41 at_202 203 (v := 2) rfl ?_
    refine g_icmp_le C41 X41 at_203 217 206 (fun hc203 => ?_) (fun hc203 => absurd hc203 (by decide))
    refine g_iload C41 X41 at_217 219 rfl ?_
    refine g_iconst C41 X41 at_219 220 (v := 1) rfl ?_
    refine g_icmp_le C41 X41 at_220 234 223 (fun hc220 => ?_) (fun hc220 => absurd hc220 (by decide))
    refine g_iload C41 X41 at_234 236 rfl ?_
    refine g_if_le C41 X41 at_236 250 239 (fun hc236 => ?_) (fun hc236 => absurd hc236 (by decide))
    refine g_iconst C41 X41 at_250 251 (v := 0) rfl ?_
    refine g_istore C41 X41 at_251 253 (w := 0) rfl (ls' := #[iv p0, iv p1, iv p2, iv p3, iv p4, iv 0, iv r2, iv r3, iv r4, iv r5, rv b6, rv b26, rv b32, iv 0, iv 0, uu, uu]) rfl ?_
    refine g_iload C41 X41 at_253 255 rfl ?_
    refine g_if_le C41 X41 at_255 269 258 (fun hc255 => ?_) (fun hc255 => absurd hc255 (by decide))
    refine g_iload C41 X41 at_269 271 rfl ?_
    refine g_iconst C41 X41 at_271 272 (v := 1) rfl ?_
    refine g_icmp_le C41 X41 at_272 286 275 (fun hc272 => ?_) (fun hc272 => absurd hc272 (by decide))
    refine g_iload C41 X41 at_286 288 rfl ?_
    refine g_iconst C41 X41 at_288 289 (v := 2) rfl ?_
    refine g_icmp_le C41 X41 at_289 303 292 (fun hc289 => ?_) (fun hc289 => absurd hc289 (by decide))
    refine g_iload C41 X41 at_303 305 rfl ?_
    refine g_iconst C41 X41 at_305 306 (v := 3) rfl ?_
    refine g_icmp_le C41 X41 at_306 320 309 (fun hc306 => ?_) (fun hc306 => absurd hc306 (by decide))
    refine g_iconst C41 X41 at_320 321 (v := 0) rfl ?_
    refine g_iload C41 X41 at_321 323 rfl ?_
    refine g_iload C41 X41 at_323 325 rfl ?_
    refine g_isub C41 X41 at_325 326 ?_
    rw [show (0 : Int32) - 0 = 0 from by decide]
    refine g_callS0 C41 X41 (b_16 hw) at_326 [(.int 0), (.int 0)] [] 0 (rm5 hw Z41) N41 pd_11 rfl 329 (fun T47 _ X47 N47 e47 => ?_)
    rw [show fMax (0 : Int32) (0 : Int32) = (0 : Int32) from by decide]
    refine g_istore C41 X47 at_329 331 (w := 0) rfl (ls' := #[iv p0, iv p1, iv p2, iv p3, iv p4, iv 0, iv r2, iv r3, iv r4, iv r5, rv b6, rv b26, rv b32, iv 0, iv 0, iv 0, uu]) rfl ?_
    refine g_aload C41 X47 at_331 333 rfl rfl ?_
    refine g_callS0 C41 X47 (b_17 hw) at_333 [(.ref b32)] [] 0 (rm6_0_0_0 hw Z41 q41_0 q41_1 q41_2 q41_3 f42 f43 hcs hwf) N47 pd_20 e47 336 (fun T48 _ X48 N48 e48 => ?_)
    refine g_astore C41 X48 at_336 338 rfl (ls' := #[iv p0, iv p1, iv p2, iv p3, iv p4, iv 0, iv r2, iv r3, iv r4, iv r5, rv b6, rv b26, rv b32, iv 0, iv 0, iv 0, rv b32]) rfl ?_
    refine g_aload C41 X48 at_338 340 rfl rfl ?_
    refine g_ifnullN C41 X48 at_340 343 ?_
    refine g_aload C41 X48 at_343 345 rfl rfl ?_
    refine g_callV0 C41 X48 (b_18 hw) q41_0 at_345 [] [] 0 (rm7_0 hw Z41 q41_0 q41_1 q41_2 q41_3 f42 hcs) N48 pd_6 e48 348 (fun T49 _ X49 N49 e49 => ?_)
    refine g_iload C41 X49 at_348 350 rfl ?_
    refine g_icmp_eq C41 X49 at_350 355 353 (fun hc350 => ?_) (fun hc350 => absurd hc350 (by decide))
    refine g_iload C41 X49 at_355 357 rfl ?_
    refine g_if_le C41 X49 at_357 376 360 (fun hc357 => ?_) (fun hc357 => absurd hc357 (by decide))
    refine g_iload C41 X49 at_376 378 rfl ?_
    refine g_iconst C41 X49 at_378 379 (v := 1) rfl ?_
    refine g_icmp_le C41 X49 at_379 400 382 (fun hc379 => ?_) (fun hc379 => absurd hc379 (by decide))
    refine g_iload C41 X49 at_400 402 rfl ?_
    refine g_iconst C41 X49 at_402 403 (v := 2) rfl ?_
    refine g_icmp_le C41 X49 at_403 424 406 (fun hc403 => ?_) (fun hc403 => absurd hc403 (by decide))
    refine g_iload C41 X49 at_424 426 rfl ?_
    refine g_iconst C41 X49 at_426 427 (v := 3) rfl ?_
    refine g_icmp_le C41 X49 at_427 448 430 (fun hc427 => ?_) (fun hc427 => absurd hc427 (by decide))
    refine g_iconst C41 X49 at_448 449 (v := 1) rfl ?_
    exact g_retNH C41 X49 K hS41 (Nat.le_refl _) hEL H_41 R_41 (by simp) at_449 (by decide) (by decide) e49 ⟨rfl, N49⟩
  · subst hsp
    refine g_iload C X22 at_58 60 rfl ?_
    refine g_if_ne C X22 at_60 71 63 (fun hc60 => ?_) (fun hc60 => absurd hc60 (by decide))
    refine g_iload C X22 at_71 73 rfl ?_
    refine g_iconst C X22 at_73 74 (v := 1) rfl ?_
    refine g_icmp_ne C X22 at_74 90 77 (fun hc74 => absurd hc74 (by decide)) (fun hc74 => ?_)
    refine g_iconst C X22 at_77 78 (v := 1) rfl ?_
    refine g_newA (aty := .char) (n := (1 : Int32)) C X22 (cap := 1) (w_5 hw) e22 at_78 80 (by decide) (by decide) (by decide) (by decide) (by decide) (fun T50 h50 b50 ki50 X50 e50 g50 E50 A50 => ?_)
    have n51 : b6 ≠ b50 := Nat.ne_of_lt (Nat.lt_of_lt_of_eq f25.lt g50.symm)
    have f52 := f23.ext E50
    have f53 := f24.ext E50
    have f54 := f25.ext E50
    have gn_b50 : n0 ≤ b50 := Nat.le_trans Z22 (Nat.le_of_eq g50.symm)
    have Z50 := Nat.le_trans Z22 E50.1
    have hk50 := Nat.le_trans hk22 E50.1
    have H_50 := H_22.ext E50
    have R_50 := R_22.trans (CHr.ext E50 H_22)
    have f55 : Arv Z h50 b50 ki50 .char 1 [(.int 0)] (.int 0) := A50.pad (pad_rep [] (.int 0) 1)
    refine g_dup C X50 at_80 81 rfl ?_
    refine g_iconst C X50 at_81 82 (v := 0) rfl ?_
    refine g_iload C X50 at_82 84 rfl ?_
    refine g_castore C X50 (i := 0) e50 f55 (by decide) rfl (Nat.le_of_ble_eq_true rfl) at_84 85 (fun T56 h56 X56 e56 W56 A56 => ?_)
    have f57 := f52.wr W56
    have f58 := f53.wr W56
    have f59 := f54.other W56 n51
    have f60 : Arv Z h56 b50 ki50 .char 1 [(.int (nar .char r2))] (.int 0) := A56
    have N56 := Fr.snoc X56 N22 gn_b50
    have Z56 := Nat.le_trans Z50 (Nat.le_of_eq W56.size.symm)
    have hk56 := Nat.le_trans hk50 (Nat.le_of_eq W56.size.symm)
    have H_56 := H_50.wr W56 (safe_arv C.2.1.alike f55 (by decide))
    have R_56 := R_50.trans (CHr.wr W56 (safe_arv C.2.1.alike f55 (by decide)) H_50)
    refine g_astore C X56 at_85 87 rfl (ls' := #[iv p0, iv p1, iv p2, iv p3, iv p4, iv 1, iv r2, iv r3, iv r4, iv r5, rv b6, rv b50, uu, uu, uu, uu, uu]) rfl ?_
    refine g_goto C X56 at_87 168 ?_
    refine g_new C X56 (w_6 hw) (w_7 hw) (w_8 hw) e56 at_168 171 (by decide) (by decide) (fun T61 h61 b61 X61 e61 g61 E61 A61 D61 => ?_)
    have n62 : b50 ≠ b61 := Nat.ne_of_lt (Nat.lt_of_lt_of_eq f60.lt g61.symm)
    have n63 : b6 ≠ b61 := Nat.ne_of_lt (Nat.lt_of_lt_of_eq f59.lt g61.symm)
    have f64 := f57.ext E61
    have f65 := f58.ext E61
    have f66 := f59.ext E61
    have f67 := f60.ext E61
    have gn_b61 : n0 ≤ b61 := Nat.le_trans Z56 (Nat.le_of_eq g61.symm)
    have Z61 := Nat.le_trans Z56 E61.1
    have hk61 := Nat.le_trans hk56 E61.1
    have H_61 := H_56.ext E61
    have R_61 := R_56.trans (CHr.ext E61 H_56)
    have sf_b61_61 := Safe.ext E61 H_56 (Safe.new (Nat.le_of_eq g61.symm))
    have f68 : OFv Z h61 b61 .null := D61 (Or.inr (w_21 hw)) (ty := (.array .byte)) (by decide)
    have f69 : OFc Z h61 b61 := D61 (Or.inr (w_22 hw)) (ty := .byte) (by decide)
    refine g_dup C X61 at_171 172 rfl ?_
    refine g_aload C X61 at_172 174 rfl rfl ?_
    refine g_callI C X61 rfl (w_9 hw) (w_10 hw) (w_8 hw) (w_11 hw) at_174 [(.ref b50)] [(.ref b61)] 1 (rm2_1 hw Z61 A61 f68 f69 f67 f64 gn_b61 (own_le (own_pk hr2)) hcs (Ne.symm n62)) pd_19 e61 177 (fun u70 T70 L70 X70 hQ70 => ?_)
    obtain ⟨o370, kd370, rfl, Nq70, szo370, Kq70, q70_0, q70_1, q70_2, q70_3⟩ := hQ70
    have N70 := Fr.app N56 Nq70
    have f74 := Sta.keepN f64 Kq70 (allS (Exa.ns A61) all0)
    have f75 := Sta.keepN f65 Kq70 (allS (Exa.ns A61) all0)
    have f76 := f66.keep Kq70 (ninS n63 nin0)
    have Z70 := Nat.le_trans Z61 Kq70.1
    have hk70 := Nat.le_trans hk61 Kq70.1
    have H_70 := CHv.keep Kq70 (allS sf_b61_61 all0) H_61
    have R_70 := R_61.trans (CHr.keep Kq70 (allS sf_b61_61 all0) H_61)
    refine ret0 ?_
    refine g_astore C X70 at_177 179 rfl (ls' := #[iv p0, iv p1, iv p2, iv p3, iv p4, iv 1, iv r2, iv r3, iv r4, iv r5, rv b6, rv b50, rv b61, uu, uu, uu, uu]) rfl ?_
    refine g_iload C X70 at_179 181 rfl ?_
    refine g_istore C X70 at_181 183 (w := 1) rfl (ls' := #[iv p0, iv p1, iv p2, iv p3, iv p4, iv 1, iv r2, iv r3, iv r4, iv r5, rv b6, rv b50, rv b61, iv 1, uu, uu, uu]) rfl ?_
    refine g_iload C X70 at_183 185 rfl ?_
    refine g_iconst C X70 at_185 186 (v := 3) rfl ?_
    refine g_icmp_le C X70 at_186 200 189 (fun hc186 => ?_) (fun hc186 => absurd hc186 (by decide))
    refine g_iload C X70 at_200 202 rfl ?_
    refine g_iconst C X70 at_202 203 (v := 2) rfl ?_
    refine g_icmp_le C X70 at_203 217 206 (fun hc203 => ?_) (fun hc203 => absurd hc203 (by decide))
    refine g_iload C X70 at_217 219 rfl ?_
    refine g_iconst C X70 at_219 220 (v := 1) rfl ?_
    refine g_icmp_le C X70 at_220 234 223 (fun hc220 => ?_) (fun hc220 => absurd hc220 (by decide))
    refine g_iload C X70 at_234 236 rfl ?_
    refine g_if_le C X70 at_236 250 239 (fun hc236 => absurd hc236 (by decide)) (fun hc236 => ?_)
    refine g_iload C X70 at_239 241 rfl ?_
    refine g_callS0 C X70 (b_19 hw) at_241 [(.int r2)] [] 0 (rm15 hw Z70) N70 pd_10 rfl 244 (fun T79 _ X79 N79 e79 => ?_)
    obtain ⟨r79, hr79⟩ : ∃ z : Int32, fSp r2 = z := ⟨_, rfl⟩
    rw [hr79]
    refine g_if_ne C X79 at_244 250 247 (fun hc244 => ?_) (fun hc244 => ?_)
    · refine g_iconst C X79 at_250 251 (v := 0) rfl ?_
      refine g_istore C X79 at_251 253 (w := 0) rfl (ls' := #[iv p0, iv p1, iv p2, iv p3, iv p4, iv 1, iv r2, iv r3, iv r4, iv r5, rv b6, rv b50, rv b61, iv 1, iv 0, uu, uu]) rfl ?_
      refine g_iload C X79 at_253 255 rfl ?_
      refine g_if_le C X79 at_255 269 258 (fun hc255 => absurd hc255 (by decide)) (fun hc255 => ?_)
      refine g_iload C X79 at_258 260 rfl ?_
      refine g_callS0 C X79 (b_19 hw) at_260 [(.int r2)] [] 0 (rm15 hw Z70) N79 pd_10 e79 263 (fun T80 _ X80 N80 e80 => ?_)
      rw [hr79]
      refine g_if_ne C X80 at_263 269 266 (fun hc263 => ?_) (fun hc263 => absurd hc263 hc244)
      refine g_iload C X80 at_269 271 rfl ?_
      refine g_iconst C X80 at_271 272 (v := 1) rfl ?_
      refine g_icmp_le C X80 at_272 286 275 (fun hc272 => ?_) (fun hc272 => absurd hc272 (by decide))
      refine g_iload C X80 at_286 288 rfl ?_
      refine g_iconst C X80 at_288 289 (v := 2) rfl ?_
      refine g_icmp_le C X80 at_289 303 292 (fun hc289 => ?_) (fun hc289 => absurd hc289 (by decide))
      refine g_iload C X80 at_303 305 rfl ?_
      refine g_iconst C X80 at_305 306 (v := 3) rfl ?_
      refine g_icmp_le C X80 at_306 320 309 (fun hc306 => ?_) (fun hc306 => absurd hc306 (by decide))
      refine g_iconst C X80 at_320 321 (v := 0) rfl ?_
      refine g_iload C X80 at_321 323 rfl ?_
      refine g_iload C X80 at_323 325 rfl ?_
      refine g_isub C X80 at_325 326 ?_
      rw [show ((0 : Int32) - (1 : Int32)) = (-1 : Int32) from by decide]
      refine g_callS0 C X80 (b_16 hw) at_326 [(.int 0), (.int (-1 : Int32))] [] 0 (rm5 hw Z70) N80 pd_11 e80 329 (fun T81 _ X81 N81 e81 => ?_)
      rw [show fMax (0 : Int32) (-1 : Int32) = (0 : Int32) from by decide]
      refine g_istore C X81 at_329 331 (w := 0) rfl (ls' := #[iv p0, iv p1, iv p2, iv p3, iv p4, iv 1, iv r2, iv r3, iv r4, iv r5, rv b6, rv b50, rv b61, iv 1, iv 0, iv 0, uu]) rfl ?_
      refine g_aload C X81 at_331 333 rfl rfl ?_
      refine g_callSH C X81 hS0 hk70 hEL H_70 (w_31 hw) (w_32 hw) (w_33 hw) (w_34 hw) at_333 [(.ref b61)] [] 0 (rm6_1_1_1 hw Z70 hEL q70_0 q70_1 q70_2 q70_3 f74 f75 hcs hwf (own_s1 (own_pk hr2) hr79 hc244)) pd_20 e81 336 (fun u82 T82 L82 C82 X82 hQ82 hS82 A82 => ?_)
      obtain ⟨o382, o482, kd382, rfl, Nq82, Kq82, q82_0, q82_1, q82_2, q82_3⟩ := hQ82
      have N82 := Fr.app N81 Nq82
      have f83 := Sta.keepN f74 Kq82 all0
      have Z82 := Nat.le_trans Z70 Kq82.1
      have H_82 := A82.1
      have R_82 := R_70.trans A82
      refine ret1 ?_
      refine g_astore C82 X82 at_336 338 rfl (ls' := #[iv p0, iv p1, iv p2, iv p3, iv p4, iv 1, iv r2, iv r3, iv r4, iv r5, rv b6, rv b50, rv b61, iv 1, iv 0, iv 0, rv o382]) rfl ?_
      refine g_aload C82 X82 at_338 340 rfl rfl ?_
      refine g_ifnullN C82 X82 at_340 343 ?_
      refine g_aload C82 X82 at_343 345 rfl rfl ?_
      refine g_callV0 C82 X82 (b_18 hw) q82_0 at_345 [] [] 0 (rm7_0 hw Z82 q82_0 q82_1 q82_2 q82_3 f83 hcs) N82 pd_6 rfl 348 (fun T90 _ X90 N90 e90 => ?_)
      refine g_iload C82 X90 at_348 350 rfl ?_
      refine g_icmp_eq C82 X90 at_350 355 353 (fun hc350 => ?_) (fun hc350 => absurd hc350 (by decide))
      refine g_iload C82 X90 at_355 357 rfl ?_
      refine g_if_le C82 X90 at_357 376 360 (fun hc357 => ?_) (fun hc357 => absurd hc357 (by decide))
      refine g_iload C82 X90 at_376 378 rfl ?_
      refine g_iconst C82 X90 at_378 379 (v := 1) rfl ?_
      refine g_icmp_le C82 X90 at_379 400 382 (fun hc379 => ?_) (fun hc379 => absurd hc379 (by decide))
      refine g_iload C82 X90 at_400 402 rfl ?_
      refine g_iconst C82 X90 at_402 403 (v := 2) rfl ?_
      refine g_icmp_le C82 X90 at_403 424 406 (fun hc403 => ?_) (fun hc403 => absurd hc403 (by decide))
      refine g_iload C82 X90 at_424 426 rfl ?_
      refine g_iconst C82 X90 at_426 427 (v := 3) rfl ?_
      refine g_icmp_le C82 X90 at_427 448 430 (fun hc427 => ?_) (fun hc427 => absurd hc427 (by decide))
      refine g_iconst C82 X90 at_448 449 (v := 1) rfl ?_
      exact g_retNH C82 X90 K hS82 (Nat.le_refl _) hEL H_82 R_82 (by simp) at_449 (by decide) (by decide) e90 ⟨rfl, N90⟩
    · subst hc244
      refine g_iconst C X79 at_247 248 (v := 0) rfl ?_
      refine g_istore C X79 at_248 250 (w := 0) rfl (ls' := #[iv p0, iv p1, iv p2, iv p3, iv p4, iv 1, iv r2, iv r3, iv r4, iv r5, rv b6, rv b50, rv b61, iv 0, uu, uu, uu]) rfl ?_
      refine g_iconst C X79 at_250 251 (v := 0) rfl ?_
      refine g_istore C X79 at_251 253 (w := 0) rfl (ls' := #[iv p0, iv p1, iv p2, iv p3, iv p4, iv 1, iv r2, iv r3, iv r4, iv r5, rv b6, rv b50, rv b61, iv 0, iv 0, uu, uu]) rfl ?_
      refine g_iload C X79 at_253 255 rfl ?_
      refine g_if_le C X79 at_255 269 258 (fun hc255 => absurd hc255 (by decide)) (fun hc255 => ?_)
      refine g_iload C X79 at_258 260 rfl ?_
      refine g_callS0 C X79 (b_19 hw) at_260 [(.int r2)] [] 0 (rm15 hw Z70) N79 pd_10 e79 263 (fun T91 _ X91 N91 e91 => ?_)
      rw [hr79]
      refine g_if_ne C X91 at_263 269 266 (fun hc263 => absurd hc263 (by decide)) (fun hc263 => ?_)
      refine g_iconst C X91 at_266 267 (v := 1) rfl ?_
      refine g_istore C X91 at_267 269 (w := 1) rfl (ls' := #[iv p0, iv p1, iv p2, iv p3, iv p4, iv 1, iv r2, iv r3, iv r4, iv r5, rv b6, rv b50, rv b61, iv 0, iv 1, uu, uu]) rfl ?_
      refine g_iload C X91 at_269 271 rfl ?_
      refine g_iconst C X91 at_271 272 (v := 1) rfl ?_
      refine g_icmp_le C X91 at_272 286 275 (fun hc272 => ?_) (fun hc272 => absurd hc272 (by decide))
      refine g_iload C X91 at_286 288 rfl ?_
      refine g_iconst C X91 at_288 289 (v := 2) rfl ?_
      refine g_icmp_le C X91 at_289 303 292 (fun hc289 => ?_) (fun hc289 => absurd hc289 (by decide))
      refine g_iload C X91 at_303 305 rfl ?_
      refine g_iconst C X91 at_305 306 (v := 3) rfl ?_
      refine g_icmp_le C X91 at_306 320 309 (fun hc306 => ?_) (fun hc306 => absurd hc306 (by decide))
      refine g_iconst C X91 at_320 321 (v := 0) rfl ?_
      refine g_iload C X91 at_321 323 rfl ?_
      refine g_iload C X91 at_323 325 rfl ?_
      refine g_isub C X91 at_325 326 ?_
      rw [show (1 : Int32) - 0 = 1 from by decide]
      refine g_callS0 C X91 (b_16 hw) at_326 [(.int 0), (.int 1)] [] 0 (rm5 hw Z70) N91 pd_11 e91 329 (fun T92 _ X92 N92 e92 => ?_)
      rw [show fMax (0 : Int32) (1 : Int32) = (1 : Int32) from by decide]
      refine g_istore C X92 at_329 331 (w := 1) rfl (ls' := #[iv p0, iv p1, iv p2, iv p3, iv p4, iv 1, iv r2, iv r3, iv r4, iv r5, rv b6, rv b50, rv b61, iv 0, iv 1, iv 1, uu]) rfl ?_
      refine g_aload C X92 at_331 333 rfl rfl ?_
      refine g_callS0 C X92 (b_17 hw) at_333 [(.ref b61)] [] 0 (rm6_1_0_1 hw Z70 q70_0 q70_1 q70_2 q70_3 f74 f75 hcs hwf (own_s0 (own_pk hr2) hr79 rfl)) N92 pd_20 e92 336 (fun T93 _ X93 N93 e93 => ?_)
      refine g_astore C X93 at_336 338 rfl (ls' := #[iv p0, iv p1, iv p2, iv p3, iv p4, iv 1, iv r2, iv r3, iv r4, iv r5, rv b6, rv b50, rv b61, iv 0, iv 1, iv 1, rv b61]) rfl ?_
      refine g_aload C X93 at_338 340 rfl rfl ?_
      refine g_ifnullN C X93 at_340 343 ?_
      refine g_aload C X93 at_343 345 rfl rfl ?_
      refine g_callV0 C X93 (b_18 hw) q70_0 at_345 [] [] 0 (rm7_1 hw Z70 q70_0 q70_1 q70_2 q70_3 f74 hcs) N93 pd_6 e93 348 (fun T94 _ X94 N94 e94 => ?_)
      refine g_iload C X94 at_348 350 rfl ?_
      refine g_icmp_eq C X94 at_350 355 353 (fun hc350 => ?_) (fun hc350 => absurd hc350 (by decide))
      refine g_iload C X94 at_355 357 rfl ?_
      refine g_if_le C X94 at_357 376 360 (fun hc357 => absurd hc357 (by decide)) (fun hc357 => ?_)
      refine g_aload C X94 at_360 362 rfl rfl ?_
      refine g_iconst C X94 at_362 363 (v := 0) rfl ?_
      refine g_callV0 C X94 (b_20 hw) q70_0 at_363 [(.int 0)] [] 0 (rm16_1_0 hw Z70 q70_0 q70_1 q70_2 q70_3 f74 f75 hcs hwf) N94 pd_9 e94 366 (fun T95 _ X95 N95 e95 => ?_)
      obtain ⟨r95, hr95⟩ : ∃ z : Int32, (own_ch (nar .byte (nar .char r2).toInt8.toInt32)) = z := ⟨_, rfl⟩
      rw [hr95]
      refine g_aload C X95 at_366 368 rfl rfl ?_
      refine g_iload C X95 at_368 370 rfl ?_
      refine g_caload C X95 e95 f76 (by decide) (v := (.int (nar .char r2))) rfl at_370 371 ?_
      refine g_icmp_eq C X95 at_371 376 374 (fun hc371 => ?_) (fun hc371 => absurd (hr95.symm.trans (own_eq (own_pk hr2))) hc371)
      refine g_iload C X95 at_376 378 rfl ?_
      refine g_iconst C X95 at_378 379 (v := 1) rfl ?_
      refine g_icmp_le C X95 at_379 400 382 (fun hc379 => ?_) (fun hc379 => absurd hc379 (by decide))
      refine g_iload C X95 at_400 402 rfl ?_
      refine g_iconst C X95 at_402 403 (v := 2) rfl ?_
      refine g_icmp_le C X95 at_403 424 406 (fun hc403 => ?_) (fun hc403 => absurd hc403 (by decide))
      refine g_iload C X95 at_424 426 rfl ?_
      refine g_iconst C X95 at_426 427 (v := 3) rfl ?_
      refine g_icmp_le C X95 at_427 448 430 (fun hc427 => ?_) (fun hc427 => absurd hc427 (by decide))
      refine g_iconst C X95 at_448 449 (v := 1) rfl ?_
      exact g_retNH C X95 K hS0 hk70 hEL H_70 R_70 (by simp) at_449 (by decide) (by decide) e95 ⟨rfl, N95⟩
  · subst hsp
    refine g_iload C X22 at_58 60 rfl ?_
    refine g_if_ne C X22 at_60 71 63 (fun hc60 => ?_) (fun hc60 => absurd hc60 (by decide))
    refine g_iload C X22 at_71 73 rfl ?_
    refine g_iconst C X22 at_73 74 (v := 1) rfl ?_
    refine g_icmp_ne C X22 at_74 90 77 (fun hc74 => ?_) (fun hc74 => absurd hc74 (by decide))
    refine g_iload C X22 at_90 92 rfl ?_
    refine g_iconst C X22 at_92 93 (v := 2) rfl ?_
    refine g_icmp_ne C X22 at_93 114 96 (fun hc93 => absurd hc93 (by decide)) (fun hc93 => ?_)
    refine g_iconst C X22 at_96 97 (v := 2) rfl ?_
    refine g_newA (aty := .char) (n := (2 : Int32)) C X22 (cap := 2) (w_5 hw) e22 at_97 99 (by decide) (by decide) (by decide) (by decide) (by decide) (fun T96 h96 b96 ki96 X96 e96 g96 E96 A96 => ?_)
    have n97 : b6 ≠ b96 := Nat.ne_of_lt (Nat.lt_of_lt_of_eq f25.lt g96.symm)
    have f98 := f23.ext E96
    have f99 := f24.ext E96
    have f100 := f25.ext E96
    have gn_b96 : n0 ≤ b96 := Nat.le_trans Z22 (Nat.le_of_eq g96.symm)
    have Z96 := Nat.le_trans Z22 E96.1
    have hk96 := Nat.le_trans hk22 E96.1
    have H_96 := H_22.ext E96
    have R_96 := R_22.trans (CHr.ext E96 H_22)
    have f101 : Arv Z h96 b96 ki96 .char 2 [(.int 0), (.int 0)] (.int 0) := A96.pad (pad_rep [] (.int 0) 2)
    refine g_dup C X96 at_99 100 rfl ?_
    refine g_iconst C X96 at_100 101 (v := 0) rfl ?_
    refine g_iload C X96 at_101 103 rfl ?_
    refine g_castore C X96 (i := 0) e96 f101 (by decide) rfl (Nat.le_of_ble_eq_true rfl) at_103 104 (fun T102 h102 X102 e102 W102 A102 => ?_)
    have f103 := f98.wr W102
    have f104 := f99.wr W102
    have f105 := f100.other W102 n97
    have f106 : Arv Z h102 b96 ki96 .char 2 [(.int (nar .char r2)), (.int 0)] (.int 0) := A102
    have N102 := Fr.snoc X102 N22 gn_b96
    have Z102 := Nat.le_trans Z96 (Nat.le_of_eq W102.size.symm)
    have hk102 := Nat.le_trans hk96 (Nat.le_of_eq W102.size.symm)
    have H_102 := H_96.wr W102 (safe_arv C.2.1.alike f101 (by decide))
    have R_102 := R_96.trans (CHr.wr W102 (safe_arv C.2.1.alike f101 (by decide)) H_96)
    refine g_dup C X102 at_104 105 rfl ?_
    refine g_iconst C X102 at_105 106 (v := 1) rfl ?_
    refine g_iload C X102 at_106 108 rfl ?_
    refine g_castore C X102 (i := 1) e102 f106 (by decide) rfl (Nat.le_of_ble_eq_true rfl) at_108 109 (fun T107 h107 X107 e107 W107 A107 => ?_)
    have f108 := f103.wr W107
    have f109 := f104.wr W107
    have f110 := f105.other W107 n97
    have f111 : Arv Z h107 b96 ki96 .char 2 [(.int (nar .char r2)), (.int (nar .char r3))] (.int 0) := A107
    have N107 := Fr.snoc X107 N102 gn_b96
    have Z107 := Nat.le_trans Z102 (Nat.le_of_eq W107.size.symm)
    have hk107 := Nat.le_trans hk102 (Nat.le_of_eq W107.size.symm)
    have H_107 := H_102.wr W107 (safe_arv C.2.1.alike f106 (by decide))
    have R_107 := R_102.trans (CHr.wr W107 (safe_arv C.2.1.alike f106 (by decide)) H_102)
    refine g_astore C X107 at_109 111 rfl (ls' := #[iv p0, iv p1, iv p2, iv p3, iv p4, iv 2, iv r2, iv r3, iv r4, iv r5, rv b6, rv b96, uu, uu, uu, uu, uu]) rfl ?_
    refine g_goto C X107 at_111 168 ?_
    refine g_new C X107 (w_6 hw) (w_7 hw) (w_8 hw) e107 at_168 171 (by decide) (by decide) (fun T112 h112 b112 X112 e112 g112 E112 A112 D112 => ?_)
    have n113 : b6 ≠ b112 := Nat.ne_of_lt (Nat.lt_of_lt_of_eq f110.lt g112.symm)
    have n114 : b96 ≠ b112 := Nat.ne_of_lt (Nat.lt_of_lt_of_eq f111.lt g112.symm)
    have f115 := f108.ext E112
    have f116 := f109.ext E112
    have f117 := f110.ext E112
    have f118 := f111.ext E112
    have gn_b112 : n0 ≤ b112 := Nat.le_trans Z107 (Nat.le_of_eq g112.symm)
    have Z112 := Nat.le_trans Z107 E112.1
    have hk112 := Nat.le_trans hk107 E112.1
    have H_112 := H_107.ext E112
    have R_112 := R_107.trans (CHr.ext E112 H_107)
    have sf_b112_112 := Safe.ext E112 H_107 (Safe.new (Nat.le_of_eq g112.symm))
    have f119 : OFv Z h112 b112 .null := D112 (Or.inr (w_21 hw)) (ty := (.array .byte)) (by decide)
    have f120 : OFc Z h112 b112 := D112 (Or.inr (w_22 hw)) (ty := .byte) (by decide)
    refine g_dup C X112 at_171 172 rfl ?_
    refine g_aload C X112 at_172 174 rfl rfl ?_
    refine g_callI C X112 rfl (w_9 hw) (w_10 hw) (w_8 hw) (w_11 hw) at_174 [(.ref b96)] [(.ref b112)] 1 (rm2_2 hw Z112 A112 f119 f120 f118 f115 gn_b112 (own_le (own_pk hr2)) (own_le (own_pk hr3)) hcs (Ne.symm n114)) pd_19 e112 177 (fun u121 T121 L121 X121 hQ121 => ?_)
    obtain ⟨o3121, kd3121, rfl, Nq121, szo3121, Kq121, q121_0, q121_1, q121_2, q121_3⟩ := hQ121
    have N121 := Fr.app N107 Nq121
    have f125 := Sta.keepN f115 Kq121 (allS (Exa.ns A112) all0)
    have f126 := Sta.keepN f116 Kq121 (allS (Exa.ns A112) all0)
    have f127 := f117.keep Kq121 (ninS n113 nin0)
    have Z121 := Nat.le_trans Z112 Kq121.1
    have hk121 := Nat.le_trans hk112 Kq121.1
    have H_121 := CHv.keep Kq121 (allS sf_b112_112 all0) H_112
    have R_121 := R_112.trans (CHr.keep Kq121 (allS sf_b112_112 all0) H_112)
    refine ret0 ?_
    refine g_astore C X121 at_177 179 rfl (ls' := #[iv p0, iv p1, iv p2, iv p3, iv p4, iv 2, iv r2, iv r3, iv r4, iv r5, rv b6, rv b96, rv b112, uu, uu, uu, uu]) rfl ?_
    refine g_iload C X121 at_179 181 rfl ?_
    refine g_istore C X121 at_181 183 (w := 2) rfl (ls' := #[iv p0, iv p1, iv p2, iv p3, iv p4, iv 2, iv r2, iv r3, iv r4, iv r5, rv b6, rv b96, rv b112, iv 2, uu, uu, uu]) rfl ?_
    refine g_iload C X121 at_183 185 rfl ?_
    refine g_iconst C X121 at_185 186 (v := 3) rfl ?_
    refine g_icmp_le C X121 at_186 200 189 (fun hc186 => ?_) (fun hc186 => absurd hc186 (by decide))
    refine g_iload C X121 at_200 202 rfl ?_
    refine g_iconst C X121 at_202 203 (v := 2) rfl ?_
    refine g_icmp_le C X121 at_203 217 206 (fun hc203 => ?_) (fun hc203 => absurd hc203 (by decide))
    refine g_iload C X121 at_217 219 rfl ?_
    refine g_iconst C X121 at_219 220 (v := 1) rfl ?_
    refine g_icmp_le C X121 at_220 234 223 (fun hc220 => absurd hc220 (by decide)) (fun hc220 => ?_)
    refine g_iload C X121 at_223 225 rfl ?_
    refine g_callS0 C X121 (b_19 hw) at_225 [(.int r3)] [] 0 (rm15 hw Z121) N121 pd_10 rfl 228 (fun T130 _ X130 N130 e130 => ?_)
    obtain ⟨r130, hr130⟩ : ∃ z : Int32, fSp r3 = z := ⟨_, rfl⟩
    rw [hr130]
    refine g_if_ne C X130 at_228 234 231 (fun hc228 => ?_) (fun hc228 => ?_)
    · refine g_iload C X130 at_234 236 rfl ?_
      refine g_if_le C X130 at_236 250 239 (fun hc236 => absurd hc236 (by decide)) (fun hc236 => ?_)
      refine g_iload C X130 at_239 241 rfl ?_
      refine g_callS0 C X130 (b_19 hw) at_241 [(.int r2)] [] 0 (rm15 hw Z121) N130 pd_10 e130 244 (fun T131 _ X131 N131 e131 => ?_)
      obtain ⟨r131, hr131⟩ : ∃ z : Int32, fSp r2 = z := ⟨_, rfl⟩
      rw [hr131]
      refine g_if_ne C X131 at_244 250 247 (fun hc244 => ?_) (fun hc244 => ?_)
      · refine g_iconst C X131 at_250 251 (v := 0) rfl ?_
        refine g_istore C X131 at_251 253 (w := 0) rfl (ls' := #[iv p0, iv p1, iv p2, iv p3, iv p4, iv 2, iv r2, iv r3, iv r4, iv r5, rv b6, rv b96, rv b112, iv 2, iv 0, uu, uu]) rfl ?_
        refine g_iload C X131 at_253 255 rfl ?_
        refine g_if_le C X131 at_255 269 258 (fun hc255 => absurd hc255 (by decide)) (fun hc255 => ?_)
        refine g_iload C X131 at_258 260 rfl ?_
        refine g_callS0 C X131 (b_19 hw) at_260 [(.int r2)] [] 0 (rm15 hw Z121) N131 pd_10 e131 263 (fun T132 _ X132 N132 e132 => ?_)
        rw [hr131]
        refine g_if_ne C X132 at_263 269 266 (fun hc263 => ?_) (fun hc263 => absurd hc263 hc244)
        refine g_iload C X132 at_269 271 rfl ?_
        refine g_iconst C X132 at_271 272 (v := 1) rfl ?_
        refine g_icmp_le C X132 at_272 286 275 (fun hc272 => absurd hc272 (by decide)) (fun hc272 => ?_)
        refine g_iload C X132 at_275 277 rfl ?_
        refine g_callS0 C X132 (b_19 hw) at_277 [(.int r3)] [] 0 (rm15 hw Z121) N132 pd_10 e132 280 (fun T133 _ X133 N133 e133 => ?_)
        rw [hr130]
        refine g_if_ne C X133 at_280 286 283 (fun hc280 => ?_) (fun hc280 => absurd hc280 hc228)
        refine g_iload C X133 at_286 288 rfl ?_
        refine g_iconst C X133 at_288 289 (v := 2) rfl ?_
        refine g_icmp_le C X133 at_289 303 292 (fun hc289 => ?_) (fun hc289 => absurd hc289 (by decide))
        refine g_iload C X133 at_303 305 rfl ?_
        refine g_iconst C X133 at_305 306 (v := 3) rfl ?_
        refine g_icmp_le C X133 at_306 320 309 (fun hc306 => ?_) (fun hc306 => absurd hc306 (by decide))
        refine g_iconst C X133 at_320 321 (v := 0) rfl ?_
        refine g_iload C X133 at_321 323 rfl ?_
        refine g_iload C X133 at_323 325 rfl ?_
        refine g_isub C X133 at_325 326 ?_
        rw [show ((0 : Int32) - (2 : Int32)) = (-2 : Int32) from by decide]
        refine g_callS0 C X133 (b_16 hw) at_326 [(.int 0), (.int (-2 : Int32))] [] 0 (rm5 hw Z121) N133 pd_11 e133 329 (fun T134 _ X134 N134 e134 => ?_)
        rw [show fMax (0 : Int32) (-2 : Int32) = (0 : Int32) from by decide]
        refine g_istore C X134 at_329 331 (w := 0) rfl (ls' := #[iv p0, iv p1, iv p2, iv p3, iv p4, iv 2, iv r2, iv r3, iv r4, iv r5, rv b6, rv b96, rv b112, iv 2, iv 0, iv 0, uu]) rfl ?_
        refine g_aload C X134 at_331 333 rfl rfl ?_
        refine g_callSH C X134 hS0 hk121 hEL H_121 (w_31 hw) (w_32 hw) (w_33 hw) (w_34 hw) at_333 [(.ref b112)] [] 0 (rm6_2_2_2 hw Z121 hEL q121_0 q121_1 q121_2 q121_3 f125 f126 hcs hwf (own_s1 (own_pk hr2) hr131 hc244) (own_s1 (own_pk hr3) hr130 hc228)) pd_20 e134 336 (fun u135 T135 L135 C135 X135 hQ135 hS135 A135 => ?_)
        obtain ⟨o3135, o4135, kd3135, rfl, Nq135, Kq135, q135_0, q135_1, q135_2, q135_3⟩ := hQ135
        have N135 := Fr.app N134 Nq135
        have f136 := Sta.keepN f125 Kq135 all0
        have Z135 := Nat.le_trans Z121 Kq135.1
        have H_135 := A135.1
        have R_135 := R_121.trans A135
        refine ret1 ?_
        refine g_astore C135 X135 at_336 338 rfl (ls' := #[iv p0, iv p1, iv p2, iv p3, iv p4, iv 2, iv r2, iv r3, iv r4, iv r5, rv b6, rv b96, rv b112, iv 2, iv 0, iv 0, rv o3135]) rfl ?_
        refine g_aload C135 X135 at_338 340 rfl rfl ?_
        refine g_ifnullN C135 X135 at_340 343 ?_
        refine g_aload C135 X135 at_343 345 rfl rfl ?_
        refine g_callV0 C135 X135 (b_18 hw) q135_0 at_345 [] [] 0 (rm7_0 hw Z135 q135_0 q135_1 q135_2 q135_3 f136 hcs) N135 pd_6 rfl 348 (fun T143 _ X143 N143 e143 => ?_)
        refine g_iload C135 X143 at_348 350 rfl ?_
        refine g_icmp_eq C135 X143 at_350 355 353 (fun hc350 => ?_) (fun hc350 => absurd hc350 (by decide))
        refine g_iload C135 X143 at_355 357 rfl ?_
        refine g_if_le C135 X143 at_357 376 360 (fun hc357 => ?_) (fun hc357 => absurd hc357 (by decide))
        refine g_iload C135 X143 at_376 378 rfl ?_
        refine g_iconst C135 X143 at_378 379 (v := 1) rfl ?_
        refine g_icmp_le C135 X143 at_379 400 382 (fun hc379 => ?_) (fun hc379 => absurd hc379 (by decide))
        refine g_iload C135 X143 at_400 402 rfl ?_
        refine g_iconst C135 X143 at_402 403 (v := 2) rfl ?_
        refine g_icmp_le C135 X143 at_403 424 406 (fun hc403 => ?_) (fun hc403 => absurd hc403 (by decide))
        refine g_iload C135 X143 at_424 426 rfl ?_
        refine g_iconst C135 X143 at_426 427 (v := 3) rfl ?_
        refine g_icmp_le C135 X143 at_427 448 430 (fun hc427 => ?_) (fun hc427 => absurd hc427 (by decide))
        refine g_iconst C135 X143 at_448 449 (v := 1) rfl ?_
        exact g_retNH C135 X143 K hS135 (Nat.le_refl _) hEL H_135 R_135 (by simp) at_449 (by decide) (by decide) e143 ⟨rfl, N143⟩
      · subst hc244
        refine g_iconst C X131 at_247 248 (v := 0) rfl ?_
        refine g_istore C X131 at_248 250 (w := 0) rfl (ls' := #[iv p0, iv p1, iv p2, iv p3, iv p4, iv 2, iv r2, iv r3, iv r4, iv r5, rv b6, rv b96, rv b112, iv 0, uu, uu, uu]) rfl ?_
        refine g_iconst C X131 at_250 251 (v := 0) rfl ?_
        refine g_istore C X131 at_251 253 (w := 0) rfl (ls' := #[iv p0, iv p1, iv p2, iv p3, iv p4, iv 2, iv r2, iv r3, iv r4, iv r5, rv b6, rv b96, rv b112, iv 0, iv 0, uu, uu]) rfl ?_
        refine g_iload C X131 at_253 255 rfl ?_
        refine g_if_le C X131 at_255 269 258 (fun hc255 => absurd hc255 (by decide)) (fun hc255 => ?_)
        refine g_iload C X131 at_258 260 rfl ?_
        refine g_callS0 C X131 (b_19 hw) at_260 [(.int r2)] [] 0 (rm15 hw Z121) N131 pd_10 e131 263 (fun T144 _ X144 N144 e144 => ?_)
        rw [hr131]
        refine g_if_ne C X144 at_263 269 266 (fun hc263 => absurd hc263 (by decide)) (fun hc263 => ?_)
        refine g_iconst C X144 at_266 267 (v := 1) rfl ?_
        refine g_istore C X144 at_267 269 (w := 1) rfl (ls' := #[iv p0, iv p1, iv p2, iv p3, iv p4, iv 2, iv r2, iv r3, iv r4, iv r5, rv b6, rv b96, rv b112, iv 0, iv 1, uu, uu]) rfl ?_
        refine g_iload C X144 at_269 271 rfl ?_
        refine g_iconst C X144 at_271 272 (v := 1) rfl ?_
        refine g_icmp_le C X144 at_272 286 275 (fun hc272 => absurd hc272 (by decide)) (fun hc272 => ?_)
        refine g_iload C X144 at_275 277 rfl ?_
        refine g_callS0 C X144 (b_19 hw) at_277 [(.int r3)] [] 0 (rm15 hw Z121) N144 pd_10 e144 280 (fun T145 _ X145 N145 e145 => ?_)
        rw [hr130]
        refine g_if_ne C X145 at_280 286 283 (fun hc280 => ?_) (fun hc280 => absurd hc280 hc228)
        refine g_iload C X145 at_286 288 rfl ?_
        refine g_iconst C X145 at_288 289 (v := 2) rfl ?_
        refine g_icmp_le C X145 at_289 303 292 (fun hc289 => ?_) (fun hc289 => absurd hc289 (by decide))
        refine g_iload C X145 at_303 305 rfl ?_
        refine g_iconst C X145 at_305 306 (v := 3) rfl ?_
        refine g_icmp_le C X145 at_306 320 309 (fun hc306 => ?_) (fun hc306 => absurd hc306 (by decide))
        refine g_iconst C X145 at_320 321 (v := 0) rfl ?_
        refine g_iload C X145 at_321 323 rfl ?_
        refine g_iload C X145 at_323 325 rfl ?_
        refine g_isub C X145 at_325 326 ?_
        rw [show (1 : Int32) - 0 = 1 from by decide]
        refine g_callS0 C X145 (b_16 hw) at_326 [(.int 0), (.int 1)] [] 0 (rm5 hw Z121) N145 pd_11 e145 329 (fun T146 _ X146 N146 e146 => ?_)
        rw [show fMax (0 : Int32) (1 : Int32) = (1 : Int32) from by decide]
        refine g_istore C X146 at_329 331 (w := 1) rfl (ls' := #[iv p0, iv p1, iv p2, iv p3, iv p4, iv 2, iv r2, iv r3, iv r4, iv r5, rv b6, rv b96, rv b112, iv 0, iv 1, iv 1, uu]) rfl ?_
        refine g_aload C X146 at_331 333 rfl rfl ?_
        refine g_callS C X146 (w_31 hw) (w_32 hw) (w_33 hw) (w_34 hw) at_333 [(.ref b112)] [] 0 (rm6_2_0_1 hw Z121 q121_0 q121_1 q121_2 q121_3 f125 f126 hcs hwf (own_s0 (own_pk hr2) hr131 rfl) (own_s1 (own_pk hr3) hr130 hc228)) pd_20 e146 336 (fun u147 T147 L147 X147 hQ147 => ?_)
        obtain ⟨o3147, o4147, kd3147, rfl, Nq147, szo3147, szo4147, Kq147, q147_0, q147_1, q147_2, q147_3⟩ := hQ147
        have N147 := Fr.app N146 Nq147
        have f154 := Sta.keepN f125 Kq147 all0
        have f155 := Sta.keepN f126 Kq147 all0
        have f156 := f127.keep Kq147 nin0
        have Z147 := Nat.le_trans Z121 Kq147.1
        have hk147 := Nat.le_trans hk121 Kq147.1
        have H_147 := CHv.keep Kq147 all0 H_121
        have R_147 := R_121.trans (CHr.keep Kq147 all0 H_121)
        refine ret1 ?_
        refine g_astore C X147 at_336 338 rfl (ls' := #[iv p0, iv p1, iv p2, iv p3, iv p4, iv 2, iv r2, iv r3, iv r4, iv r5, rv b6, rv b96, rv b112, iv 0, iv 1, iv 1, rv o3147]) rfl ?_
        refine g_aload C X147 at_338 340 rfl rfl ?_
        refine g_ifnullN C X147 at_340 343 ?_
        refine g_aload C X147 at_343 345 rfl rfl ?_
        refine g_callV0 C X147 (b_18 hw) q147_0 at_345 [] [] 0 (rm7_1 hw Z147 q147_0 q147_1 q147_2 q147_3 f154 hcs) N147 pd_6 rfl 348 (fun T161 _ X161 N161 e161 => ?_)
        refine g_iload C X161 at_348 350 rfl ?_
        refine g_icmp_eq C X161 at_350 355 353 (fun hc350 => ?_) (fun hc350 => absurd hc350 (by decide))
        refine g_iload C X161 at_355 357 rfl ?_
        refine g_if_le C X161 at_357 376 360 (fun hc357 => absurd hc357 (by decide)) (fun hc357 => ?_)
        refine g_aload C X161 at_360 362 rfl rfl ?_
        refine g_iconst C X161 at_362 363 (v := 0) rfl ?_
        refine g_callV0 C X161 (b_20 hw) q147_0 at_363 [(.int 0)] [] 0 (rm16_1_0 hw Z147 q147_0 q147_1 q147_2 q147_3 f154 f155 hcs hwf) N161 pd_9 e161 366 (fun T162 _ X162 N162 e162 => ?_)
        obtain ⟨r162, hr162⟩ : ∃ z : Int32, (own_ch (nar .byte (nar .char r2).toInt8.toInt32)) = z := ⟨_, rfl⟩
        rw [hr162]
        refine g_aload C X162 at_366 368 rfl rfl ?_
        refine g_iload C X162 at_368 370 rfl ?_
        refine g_caload C X162 e162 f156 (by decide) (v := (.int (nar .char r2))) rfl at_370 371 ?_
        refine g_icmp_eq C X162 at_371 376 374 (fun hc371 => ?_) (fun hc371 => absurd (hr162.symm.trans (own_eq (own_pk hr2))) hc371)
        refine g_iload C X162 at_376 378 rfl ?_
        refine g_iconst C X162 at_378 379 (v := 1) rfl ?_
        refine g_icmp_le C X162 at_379 400 382 (fun hc379 => ?_) (fun hc379 => absurd hc379 (by decide))
        refine g_iload C X162 at_400 402 rfl ?_
        refine g_iconst C X162 at_402 403 (v := 2) rfl ?_
        refine g_icmp_le C X162 at_403 424 406 (fun hc403 => ?_) (fun hc403 => absurd hc403 (by decide))
        refine g_iload C X162 at_424 426 rfl ?_
        refine g_iconst C X162 at_426 427 (v := 3) rfl ?_
        refine g_icmp_le C X162 at_427 448 430 (fun hc427 => ?_) (fun hc427 => absurd hc427 (by decide))
        refine g_iconst C X162 at_448 449 (v := 1) rfl ?_
        exact g_retNH C X162 K hS0 hk147 hEL H_147 R_147 (by simp) at_449 (by decide) (by decide) e162 ⟨rfl, N162⟩
    · subst hc228
      refine g_iconst C X130 at_231 232 (v := 1) rfl ?_
      refine g_istore C X130 at_232 234 (w := 1) rfl (ls' := #[iv p0, iv p1, iv p2, iv p3, iv p4, iv 2, iv r2, iv r3, iv r4, iv r5, rv b6, rv b96, rv b112, iv 1, uu, uu, uu]) rfl ?_
      refine g_iload C X130 at_234 236 rfl ?_
      refine g_if_le C X130 at_236 250 239 (fun hc236 => absurd hc236 (by decide)) (fun hc236 => ?_)
      refine g_iload C X130 at_239 241 rfl ?_
      refine g_callS0 C X130 (b_19 hw) at_241 [(.int r2)] [] 0 (rm15 hw Z121) N130 pd_10 e130 244 (fun T163 _ X163 N163 e163 => ?_)
      obtain ⟨r163, hr163⟩ : ∃ z : Int32, fSp r2 = z := ⟨_, rfl⟩
      rw [hr163]
      refine g_if_ne C X163 at_244 250 247 (fun hc244 => ?_) (fun hc244 => ?_)
      · refine g_iconst C X163 at_250 251 (v := 0) rfl ?_
        refine g_istore C X163 at_251 253 (w := 0) rfl (ls' := #[iv p0, iv p1, iv p2, iv p3, iv p4, iv 2, iv r2, iv r3, iv r4, iv r5, rv b6, rv b96, rv b112, iv 1, iv 0, uu, uu]) rfl ?_
        refine g_iload C X163 at_253 255 rfl ?_
        refine g_if_le C X163 at_255 269 258 (fun hc255 => absurd hc255 (by decide)) (fun hc255 => ?_)
        refine g_iload C X163 at_258 260 rfl ?_
        refine g_callS0 C X163 (b_19 hw) at_260 [(.int r2)] [] 0 (rm15 hw Z121) N163 pd_10 e163 263 (fun T164 _ X164 N164 e164 => ?_)
        rw [hr163]
        refine g_if_ne C X164 at_263 269 266 (fun hc263 => ?_) (fun hc263 => absurd hc263 hc244)
        refine g_iload C X164 at_269 271 rfl ?_
        refine g_iconst C X164 at_271 272 (v := 1) rfl ?_
        refine g_icmp_le C X164 at_272 286 275 (fun hc272 => absurd hc272 (by decide)) (fun hc272 => ?_)
        refine g_iload C X164 at_275 277 rfl ?_
        refine g_callS0 C X164 (b_19 hw) at_277 [(.int r3)] [] 0 (rm15 hw Z121) N164 pd_10 e164 280 (fun T165 _ X165 N165 e165 => ?_)
        rw [hr130]
        refine g_if_ne C X165 at_280 286 283 (fun hc280 => absurd hc280 (by decide)) (fun hc280 => ?_)
        refine g_iconst C X165 at_283 284 (v := 2) rfl ?_
        refine g_istore C X165 at_284 286 (w := 2) rfl (ls' := #[iv p0, iv p1, iv p2, iv p3, iv p4, iv 2, iv r2, iv r3, iv r4, iv r5, rv b6, rv b96, rv b112, iv 1, iv 2, uu, uu]) rfl ?_
        refine g_iload C X165 at_286 288 rfl ?_
        refine g_iconst C X165 at_288 289 (v := 2) rfl ?_
        refine g_icmp_le C X165 at_289 303 292 (fun hc289 => ?_) (fun hc289 => absurd hc289 (by decide))
        refine g_iload C X165 at_303 305 rfl ?_
        refine g_iconst C X165 at_305 306 (v := 3) rfl ?_
        refine g_icmp_le C X165 at_306 320 309 (fun hc306 => ?_) (fun hc306 => absurd hc306 (by decide))
        refine g_iconst C X165 at_320 321 (v := 0) rfl ?_
        refine g_iload C X165 at_321 323 rfl ?_
        refine g_iload C X165 at_323 325 rfl ?_
        refine g_isub C X165 at_325 326 ?_
        rw [show (2 : Int32) - 1 = 1 from by decide]
        refine g_callS0 C X165 (b_16 hw) at_326 [(.int 0), (.int 1)] [] 0 (rm5 hw Z121) N165 pd_11 e165 329 (fun T166 _ X166 N166 e166 => ?_)
        rw [show fMax (0 : Int32) (1 : Int32) = (1 : Int32) from by decide]
        refine g_istore C X166 at_329 331 (w := 1) rfl (ls' := #[iv p0, iv p1, iv p2, iv p3, iv p4, iv 2, iv r2, iv r3, iv r4, iv r5, rv b6, rv b96, rv b112, iv 1, iv 2, iv 1, uu]) rfl ?_
        refine g_aload C X166 at_331 333 rfl rfl ?_
        refine g_callS C X166 (w_31 hw) (w_32 hw) (w_33 hw) (w_34 hw) at_333 [(.ref b112)] [] 0 (rm6_2_1_2 hw Z121 q121_0 q121_1 q121_2 q121_3 f125 f126 hcs hwf (own_s1 (own_pk hr2) hr163 hc244) (own_s0 (own_pk hr3) hr130 rfl)) pd_20 e166 336 (fun u167 T167 L167 X167 hQ167 => ?_)
        obtain ⟨o3167, o4167, kd3167, rfl, Nq167, szo3167, szo4167, Kq167, q167_0, q167_1, q167_2, q167_3⟩ := hQ167
        have N167 := Fr.app N166 Nq167
        have f174 := Sta.keepN f125 Kq167 all0
        have f175 := Sta.keepN f126 Kq167 all0
        have f176 := f127.keep Kq167 nin0
        have Z167 := Nat.le_trans Z121 Kq167.1
        have hk167 := Nat.le_trans hk121 Kq167.1
        have H_167 := CHv.keep Kq167 all0 H_121
        have R_167 := R_121.trans (CHr.keep Kq167 all0 H_121)
        refine ret1 ?_
        refine g_astore C X167 at_336 338 rfl (ls' := #[iv p0, iv p1, iv p2, iv p3, iv p4, iv 2, iv r2, iv r3, iv r4, iv r5, rv b6, rv b96, rv b112, iv 1, iv 2, iv 1, rv o3167]) rfl ?_
        refine g_aload C X167 at_338 340 rfl rfl ?_
        refine g_ifnullN C X167 at_340 343 ?_
        refine g_aload C X167 at_343 345 rfl rfl ?_
        refine g_callV0 C X167 (b_18 hw) q167_0 at_345 [] [] 0 (rm7_1 hw Z167 q167_0 q167_1 q167_2 q167_3 f174 hcs) N167 pd_6 rfl 348 (fun T181 _ X181 N181 e181 => ?_)
        refine g_iload C X181 at_348 350 rfl ?_
        refine g_icmp_eq C X181 at_350 355 353 (fun hc350 => ?_) (fun hc350 => absurd hc350 (by decide))
        refine g_iload C X181 at_355 357 rfl ?_
        refine g_if_le C X181 at_357 376 360 (fun hc357 => absurd hc357 (by decide)) (fun hc357 => ?_)
        refine g_aload C X181 at_360 362 rfl rfl ?_
        refine g_iconst C X181 at_362 363 (v := 0) rfl ?_
        refine g_callV0 C X181 (b_20 hw) q167_0 at_363 [(.int 0)] [] 0 (rm16_1_0 hw Z167 q167_0 q167_1 q167_2 q167_3 f174 f175 hcs hwf) N181 pd_9 e181 366 (fun T182 _ X182 N182 e182 => ?_)
        obtain ⟨r182, hr182⟩ : ∃ z : Int32, (own_ch (nar .byte (nar .char r3).toInt8.toInt32)) = z := ⟨_, rfl⟩
        rw [hr182]
        refine g_aload C X182 at_366 368 rfl rfl ?_
        refine g_iload C X182 at_368 370 rfl ?_
        refine g_caload C X182 e182 f176 (by decide) (v := (.int (nar .char r3))) rfl at_370 371 ?_
        refine g_icmp_eq C X182 at_371 376 374 (fun hc371 => ?_) (fun hc371 => absurd (hr182.symm.trans (own_eq (own_pk hr3))) hc371)
        refine g_iload C X182 at_376 378 rfl ?_
        refine g_iconst C X182 at_378 379 (v := 1) rfl ?_
        refine g_icmp_le C X182 at_379 400 382 (fun hc379 => ?_) (fun hc379 => absurd hc379 (by decide))
        refine g_iload C X182 at_400 402 rfl ?_
        refine g_iconst C X182 at_402 403 (v := 2) rfl ?_
        refine g_icmp_le C X182 at_403 424 406 (fun hc403 => ?_) (fun hc403 => absurd hc403 (by decide))
        refine g_iload C X182 at_424 426 rfl ?_
        refine g_iconst C X182 at_426 427 (v := 3) rfl ?_
        refine g_icmp_le C X182 at_427 448 430 (fun hc427 => ?_) (fun hc427 => absurd hc427 (by decide))
        refine g_iconst C X182 at_448 449 (v := 1) rfl ?_
        exact g_retNH C X182 K hS0 hk167 hEL H_167 R_167 (by simp) at_449 (by decide) (by decide) e182 ⟨rfl, N182⟩
      · subst hc244
        refine g_iconst C X163 at_247 248 (v := 0) rfl ?_
        refine g_istore C X163 at_248 250 (w := 0) rfl (ls' := #[iv p0, iv p1, iv p2, iv p3, iv p4, iv 2, iv r2, iv r3, iv r4, iv r5, rv b6, rv b96, rv b112, iv 0, uu, uu, uu]) rfl ?_
        refine g_iconst C X163 at_250 251 (v := 0) rfl ?_
        refine g_istore C X163 at_251 253 (w := 0) rfl (ls' := #[iv p0, iv p1, iv p2, iv p3, iv p4, iv 2, iv r2, iv r3, iv r4, iv r5, rv b6, rv b96, rv b112, iv 0, iv 0, uu, uu]) rfl ?_
        refine g_iload C X163 at_253 255 rfl ?_
        refine g_if_le C X163 at_255 269 258 (fun hc255 => absurd hc255 (by decide)) (fun hc255 => ?_)
        refine g_iload C X163 at_258 260 rfl ?_
        refine g_callS0 C X163 (b_19 hw) at_260 [(.int r2)] [] 0 (rm15 hw Z121) N163 pd_10 e163 263 (fun T183 _ X183 N183 e183 => ?_)
        rw [hr163]
        refine g_if_ne C X183 at_263 269 266 (fun hc263 => absurd hc263 (by decide)) (fun hc263 => ?_)
        refine g_iconst C X183 at_266 267 (v := 1) rfl ?_
        refine g_istore C X183 at_267 269 (w := 1) rfl (ls' := #[iv p0, iv p1, iv p2, iv p3, iv p4, iv 2, iv r2, iv r3, iv r4, iv r5, rv b6, rv b96, rv b112, iv 0, iv 1, uu, uu]) rfl ?_
        refine g_iload C X183 at_269 271 rfl ?_
        refine g_iconst C X183 at_271 272 (v := 1) rfl ?_
        refine g_icmp_le C X183 at_272 286 275 (fun hc272 => absurd hc272 (by decide)) (fun hc272 => ?_)
        refine g_iload C X183 at_275 277 rfl ?_
        refine g_callS0 C X183 (b_19 hw) at_277 [(.int r3)] [] 0 (rm15 hw Z121) N183 pd_10 e183 280 (fun T184 _ X184 N184 e184 => ?_)
        rw [hr130]
        refine g_if_ne C X184 at_280 286 283 (fun hc280 => absurd hc280 (by decide)) (fun hc280 => ?_)
        refine g_iconst C X184 at_283 284 (v := 2) rfl ?_
        refine g_istore C X184 at_284 286 (w := 2) rfl (ls' := #[iv p0, iv p1, iv p2, iv p3, iv p4, iv 2, iv r2, iv r3, iv r4, iv r5, rv b6, rv b96, rv b112, iv 0, iv 2, uu, uu]) rfl ?_
        refine g_iload C X184 at_286 288 rfl ?_
        refine g_iconst C X184 at_288 289 (v := 2) rfl ?_
        refine g_icmp_le C X184 at_289 303 292 (fun hc289 => ?_) (fun hc289 => absurd hc289 (by decide))
        refine g_iload C X184 at_303 305 rfl ?_
        refine g_iconst C X184 at_305 306 (v := 3) rfl ?_
        refine g_icmp_le C X184 at_306 320 309 (fun hc306 => ?_) (fun hc306 => absurd hc306 (by decide))
        refine g_iconst C X184 at_320 321 (v := 0) rfl ?_
        refine g_iload C X184 at_321 323 rfl ?_
        refine g_iload C X184 at_323 325 rfl ?_
        refine g_isub C X184 at_325 326 ?_
        rw [show (2 : Int32) - 0 = 2 from by decide]
        refine g_callS0 C X184 (b_16 hw) at_326 [(.int 0), (.int 2)] [] 0 (rm5 hw Z121) N184 pd_11 e184 329 (fun T185 _ X185 N185 e185 => ?_)
        rw [show fMax (0 : Int32) (2 : Int32) = (2 : Int32) from by decide]
        refine g_istore C X185 at_329 331 (w := 2) rfl (ls' := #[iv p0, iv p1, iv p2, iv p3, iv p4, iv 2, iv r2, iv r3, iv r4, iv r5, rv b6, rv b96, rv b112, iv 0, iv 2, iv 2, uu]) rfl ?_
        refine g_aload C X185 at_331 333 rfl rfl ?_
        refine g_callS0 C X185 (b_17 hw) at_333 [(.ref b112)] [] 0 (rm6_2_0_2 hw Z121 q121_0 q121_1 q121_2 q121_3 f125 f126 hcs hwf (own_s0 (own_pk hr2) hr163 rfl) (own_s0 (own_pk hr3) hr130 rfl)) N185 pd_20 e185 336 (fun T186 _ X186 N186 e186 => ?_)
        refine g_astore C X186 at_336 338 rfl (ls' := #[iv p0, iv p1, iv p2, iv p3, iv p4, iv 2, iv r2, iv r3, iv r4, iv r5, rv b6, rv b96, rv b112, iv 0, iv 2, iv 2, rv b112]) rfl ?_
        refine g_aload C X186 at_338 340 rfl rfl ?_
        refine g_ifnullN C X186 at_340 343 ?_
        refine g_aload C X186 at_343 345 rfl rfl ?_
        refine g_callV0 C X186 (b_18 hw) q121_0 at_345 [] [] 0 (rm7_2 hw Z121 q121_0 q121_1 q121_2 q121_3 f125 hcs) N186 pd_6 e186 348 (fun T187 _ X187 N187 e187 => ?_)
        refine g_iload C X187 at_348 350 rfl ?_
        refine g_icmp_eq C X187 at_350 355 353 (fun hc350 => ?_) (fun hc350 => absurd hc350 (by decide))
        refine g_iload C X187 at_355 357 rfl ?_
        refine g_if_le C X187 at_357 376 360 (fun hc357 => absurd hc357 (by decide)) (fun hc357 => ?_)
        refine g_aload C X187 at_360 362 rfl rfl ?_
        refine g_iconst C X187 at_362 363 (v := 0) rfl ?_
        refine g_callV0 C X187 (b_20 hw) q121_0 at_363 [(.int 0)] [] 0 (rm16_2_0 hw Z121 q121_0 q121_1 q121_2 q121_3 f125 f126 hcs hwf) N187 pd_9 e187 366 (fun T188 _ X188 N188 e188 => ?_)
        obtain ⟨r188, hr188⟩ : ∃ z : Int32, (own_ch (nar .byte (nar .char r2).toInt8.toInt32)) = z := ⟨_, rfl⟩
        rw [hr188]
        refine g_aload C X188 at_366 368 rfl rfl ?_
        refine g_iload C X188 at_368 370 rfl ?_
        refine g_caload C X188 e188 f127 (by decide) (v := (.int (nar .char r2))) rfl at_370 371 ?_
        refine g_icmp_eq C X188 at_371 376 374 (fun hc371 => ?_) (fun hc371 => absurd (hr188.symm.trans (own_eq (own_pk hr2))) hc371)
        refine g_iload C X188 at_376 378 rfl ?_
        refine g_iconst C X188 at_378 379 (v := 1) rfl ?_
        refine g_icmp_le C X188 at_379 400 382 (fun hc379 => absurd hc379 (by decide)) (fun hc379 => ?_)
        refine g_aload C X188 at_382 384 rfl rfl ?_
        refine g_iconst C X188 at_384 385 (v := 1) rfl ?_
        refine g_callV0 C X188 (b_20 hw) q121_0 at_385 [(.int 1)] [] 0 (rm16_2_1 hw Z121 q121_0 q121_1 q121_2 q121_3 f125 f126 hcs hwf) N188 pd_9 e188 388 (fun T189 _ X189 N189 e189 => ?_)
        obtain ⟨r189, hr189⟩ : ∃ z : Int32, (own_ch (nar .byte (nar .char r3).toInt8.toInt32)) = z := ⟨_, rfl⟩
        rw [hr189]
        refine g_aload C X189 at_388 390 rfl rfl ?_
        refine g_iload C X189 at_390 392 rfl ?_
        refine g_iconst C X189 at_392 393 (v := 1) rfl ?_
        refine g_iadd C X189 at_393 394 ?_
        rw [show (0 : Int32) + 1 = 1 from by decide]
        refine g_caload C X189 e189 f127 (by decide) (v := (.int (nar .char r3))) rfl at_394 395 ?_
        refine g_icmp_eq C X189 at_395 400 398 (fun hc395 => ?_) (fun hc395 => absurd (hr189.symm.trans (own_eq (own_pk hr3))) hc395)
        refine g_iload C X189 at_400 402 rfl ?_
        refine g_iconst C X189 at_402 403 (v := 2) rfl ?_
        refine g_icmp_le C X189 at_403 424 406 (fun hc403 => ?_) (fun hc403 => absurd hc403 (by decide))
        refine g_iload C X189 at_424 426 rfl ?_
        refine g_iconst C X189 at_426 427 (v := 3) rfl ?_
        refine g_icmp_le C X189 at_427 448 430 (fun hc427 => ?_) (fun hc427 => absurd hc427 (by decide))
        refine g_iconst C X189 at_448 449 (v := 1) rfl ?_
        exact g_retNH C X189 K hS0 hk121 hEL H_121 R_121 (by simp) at_449 (by decide) (by decide) e189 ⟨rfl, N189⟩
  · subst hsp
    refine g_iload C X22 at_58 60 rfl ?_
    refine g_if_ne C X22 at_60 71 63 (fun hc60 => ?_) (fun hc60 => absurd hc60 (by decide))
    refine g_iload C X22 at_71 73 rfl ?_
    refine g_iconst C X22 at_73 74 (v := 1) rfl ?_
    refine g_icmp_ne C X22 at_74 90 77 (fun hc74 => ?_) (fun hc74 => absurd hc74 (by decide))
    refine g_iload C X22 at_90 92 rfl ?_
    refine g_iconst C X22 at_92 93 (v := 2) rfl ?_
    refine g_icmp_ne C X22 at_93 114 96 (fun hc93 => ?_) (fun hc93 => absurd hc93 (by decide))
    refine g_iload C X22 at_114 116 rfl ?_
    refine g_iconst C X22 at_116 117 (v := 3) rfl ?_
    refine g_icmp_ne C X22 at_117 143 120 (fun hc117 => absurd hc117 (by decide)) (fun hc117 => ?_)
    refine g_iconst C X22 at_120 121 (v := 3) rfl ?_
    refine g_newA (aty := .char) (n := (3 : Int32)) C X22 (cap := 3) (w_5 hw) e22 at_121 123 (by decide) (by decide) (by decide) (by decide) (by decide) (fun T190 h190 b190 ki190 X190 e190 g190 E190 A190 => ?_)
    have n191 : b6 ≠ b190 := Nat.ne_of_lt (Nat.lt_of_lt_of_eq f25.lt g190.symm)
    have f192 := f23.ext E190
    have f193 := f24.ext E190
    have f194 := f25.ext E190
    have gn_b190 : n0 ≤ b190 := Nat.le_trans Z22 (Nat.le_of_eq g190.symm)
    have Z190 := Nat.le_trans Z22 E190.1
    have hk190 := Nat.le_trans hk22 E190.1
    have H_190 := H_22.ext E190
    have R_190 := R_22.trans (CHr.ext E190 H_22)
    have f195 : Arv Z h190 b190 ki190 .char 3 [(.int 0), (.int 0), (.int 0)] (.int 0) := A190.pad (pad_rep [] (.int 0) 3)
    refine g_dup C X190 at_123 124 rfl ?_
    refine g_iconst C X190 at_124 125 (v := 0) rfl ?_
    refine g_iload C X190 at_125 127 rfl ?_
    refine g_castore C X190 (i := 0) e190 f195 (by decide) rfl (Nat.le_of_ble_eq_true rfl) at_127 128 (fun T196 h196 X196 e196 W196 A196 => ?_)
    have f197 := f192.wr W196
    have f198 := f193.wr W196
    have f199 := f194.other W196 n191
    have f200 : Arv Z h196 b190 ki190 .char 3 [(.int (nar .char r2)), (.int 0), (.int 0)] (.int 0) := A196
    have N196 := Fr.snoc X196 N22 gn_b190
    have Z196 := Nat.le_trans Z190 (Nat.le_of_eq W196.size.symm)
    have hk196 := Nat.le_trans hk190 (Nat.le_of_eq W196.size.symm)
    have H_196 := H_190.wr W196 (safe_arv C.2.1.alike f195 (by decide))
    have R_196 := R_190.trans (CHr.wr W196 (safe_arv C.2.1.alike f195 (by decide)) H_190)
    refine g_dup C X196 at_128 129 rfl ?_
    refine g_iconst C X196 at_129 130 (v := 1) rfl ?_
    refine g_iload C X196 at_130 132 rfl ?_
    refine g_castore C X196 (i := 1) e196 f200 (by decide) rfl (Nat.le_of_ble_eq_true rfl) at_132 133 (fun T201 h201 X201 e201 W201 A201 => ?_)
    have f202 := f197.wr W201
    have f203 := f198.wr W201
    have f204 := f199.other W201 n191
    have f205 : Arv Z h201 b190 ki190 .char 3 [(.int (nar .char r2)), (.int (nar .char r3)), (.int 0)] (.int 0) := A201
    have N201 := Fr.snoc X201 N196 gn_b190
    have Z201 := Nat.le_trans Z196 (Nat.le_of_eq W201.size.symm)
    have hk201 := Nat.le_trans hk196 (Nat.le_of_eq W201.size.symm)
    have H_201 := H_196.wr W201 (safe_arv C.2.1.alike f200 (by decide))
    have R_201 := R_196.trans (CHr.wr W201 (safe_arv C.2.1.alike f200 (by decide)) H_196)
    refine g_dup C X201 at_133 134 rfl ?_
    refine g_iconst C X201 at_134 135 (v := 2) rfl ?_
    refine g_iload C X201 at_135 137 rfl ?_
    refine g_castore C X201 (i := 2) e201 f205 (by decide) rfl (Nat.le_of_ble_eq_true rfl) at_137 138 (fun T206 h206 X206 e206 W206 A206 => ?_)
    have f207 := f202.wr W206
    have f208 := f203.wr W206
    have f209 := f204.other W206 n191
    have f210 : Arv Z h206 b190 ki190 .char 3 [(.int (nar .char r2)), (.int (nar .char r3)), (.int (nar .char r4))] (.int 0) := A206
    have N206 := Fr.snoc X206 N201 gn_b190
    have Z206 := Nat.le_trans Z201 (Nat.le_of_eq W206.size.symm)
    have hk206 := Nat.le_trans hk201 (Nat.le_of_eq W206.size.symm)
    have H_206 := H_201.wr W206 (safe_arv C.2.1.alike f205 (by decide))
    have R_206 := R_201.trans (CHr.wr W206 (safe_arv C.2.1.alike f205 (by decide)) H_201)
    refine g_astore C X206 at_138 140 rfl (ls' := #[iv p0, iv p1, iv p2, iv p3, iv p4, iv 3, iv r2, iv r3, iv r4, iv r5, rv b6, rv b190, uu, uu, uu, uu, uu]) rfl ?_
    refine g_goto C X206 at_140 168 ?_
    refine g_new C X206 (w_6 hw) (w_7 hw) (w_8 hw) e206 at_168 171 (by decide) (by decide) (fun T211 h211 b211 X211 e211 g211 E211 A211 D211 => ?_)
    have n212 : b190 ≠ b211 := Nat.ne_of_lt (Nat.lt_of_lt_of_eq f210.lt g211.symm)
    have n213 : b6 ≠ b211 := Nat.ne_of_lt (Nat.lt_of_lt_of_eq f209.lt g211.symm)
    have f214 := f207.ext E211
    have f215 := f208.ext E211
    have f216 := f209.ext E211
    have f217 := f210.ext E211
    have gn_b211 : n0 ≤ b211 := Nat.le_trans Z206 (Nat.le_of_eq g211.symm)
    have Z211 := Nat.le_trans Z206 E211.1
    have hk211 := Nat.le_trans hk206 E211.1
    have H_211 := H_206.ext E211
    have R_211 := R_206.trans (CHr.ext E211 H_206)
    have sf_b211_211 := Safe.ext E211 H_206 (Safe.new (Nat.le_of_eq g211.symm))
    have f218 : OFv Z h211 b211 .null := D211 (Or.inr (w_21 hw)) (ty := (.array .byte)) (by decide)
    have f219 : OFc Z h211 b211 := D211 (Or.inr (w_22 hw)) (ty := .byte) (by decide)
    refine g_dup C X211 at_171 172 rfl ?_
    refine g_aload C X211 at_172 174 rfl rfl ?_
    refine g_callI C X211 rfl (w_9 hw) (w_10 hw) (w_8 hw) (w_11 hw) at_174 [(.ref b190)] [(.ref b211)] 1 (rm2_3 hw Z211 A211 f218 f219 f217 f214 gn_b211 (own_le (own_pk hr2)) (own_le (own_pk hr3)) (own_le (own_pk hr4)) hcs (Ne.symm n212)) pd_19 e211 177 (fun u220 T220 L220 X220 hQ220 => ?_)
    obtain ⟨o3220, kd3220, rfl, Nq220, szo3220, Kq220, q220_0, q220_1, q220_2, q220_3⟩ := hQ220
    have N220 := Fr.app N206 Nq220
    have f224 := Sta.keepN f214 Kq220 (allS (Exa.ns A211) all0)
    have f225 := Sta.keepN f215 Kq220 (allS (Exa.ns A211) all0)
    have f226 := f216.keep Kq220 (ninS n213 nin0)
    have Z220 := Nat.le_trans Z211 Kq220.1
    have hk220 := Nat.le_trans hk211 Kq220.1
    have H_220 := CHv.keep Kq220 (allS sf_b211_211 all0) H_211
    have R_220 := R_211.trans (CHr.keep Kq220 (allS sf_b211_211 all0) H_211)
    refine ret0 ?_
    refine g_astore C X220 at_177 179 rfl (ls' := #[iv p0, iv p1, iv p2, iv p3, iv p4, iv 3, iv r2, iv r3, iv r4, iv r5, rv b6, rv b190, rv b211, uu, uu, uu, uu]) rfl ?_
    refine g_iload C X220 at_179 181 rfl ?_
    refine g_istore C X220 at_181 183 (w := 3) rfl (ls' := #[iv p0, iv p1, iv p2, iv p3, iv p4, iv 3, iv r2, iv r3, iv r4, iv r5, rv b6, rv b190, rv b211, iv 3, uu, uu, uu]) rfl ?_
    refine g_iload C X220 at_183 185 rfl ?_
    refine g_iconst C X220 at_185 186 (v := 3) rfl ?_
    refine g_icmp_le C X220 at_186 200 189 (fun hc186 => ?_) (fun hc186 => absurd hc186 (by decide))
    refine g_iload C X220 at_200 202 rfl ?_
    refine g_iconst C X220 at_202 203 (v := 2) rfl ?_
    refine g_icmp_le C X220 at_203 217 206 (fun hc203 => absurd hc203 (by decide)) (fun hc203 => ?_)
    refine g_iload C X220 at_206 208 rfl ?_
    refine g_callS0 C X220 (b_19 hw) at_208 [(.int r4)] [] 0 (rm15 hw Z220) N220 pd_10 rfl 211 (fun T229 _ X229 N229 e229 => ?_)
    obtain ⟨r229, hr229⟩ : ∃ z : Int32, fSp r4 = z := ⟨_, rfl⟩
    rw [hr229]
    refine g_if_ne C X229 at_211 217 214 (fun hc211 => ?_) (fun hc211 => ?_)
    · refine g_iload C X229 at_217 219 rfl ?_
      refine g_iconst C X229 at_219 220 (v := 1) rfl ?_
      refine g_icmp_le C X229 at_220 234 223 (fun hc220 => absurd hc220 (by decide)) (fun hc220 => ?_)
      refine g_iload C X229 at_223 225 rfl ?_
      refine g_callS0 C X229 (b_19 hw) at_225 [(.int r3)] [] 0 (rm15 hw Z220) N229 pd_10 e229 228 (fun T230 _ X230 N230 e230 => ?_)
      obtain ⟨r230, hr230⟩ : ∃ z : Int32, fSp r3 = z := ⟨_, rfl⟩
      rw [hr230]
      refine g_if_ne C X230 at_228 234 231 (fun hc228 => ?_) (fun hc228 => ?_)
      · refine g_iload C X230 at_234 236 rfl ?_
        refine g_if_le C X230 at_236 250 239 (fun hc236 => absurd hc236 (by decide)) (fun hc236 => ?_)
        refine g_iload C X230 at_239 241 rfl ?_
        refine g_callS0 C X230 (b_19 hw) at_241 [(.int r2)] [] 0 (rm15 hw Z220) N230 pd_10 e230 244 (fun T231 _ X231 N231 e231 => ?_)
        obtain ⟨r231, hr231⟩ : ∃ z : Int32, fSp r2 = z := ⟨_, rfl⟩
        rw [hr231]
        refine g_if_ne C X231 at_244 250 247 (fun hc244 => ?_) (fun hc244 => ?_)
        · refine g_iconst C X231 at_250 251 (v := 0) rfl ?_
          refine g_istore C X231 at_251 253 (w := 0) rfl (ls' := #[iv p0, iv p1, iv p2, iv p3, iv p4, iv 3, iv r2, iv r3, iv r4, iv r5, rv b6, rv b190, rv b211, iv 3, iv 0, uu, uu]) rfl ?_
          refine g_iload C X231 at_253 255 rfl ?_
          refine g_if_le C X231 at_255 269 258 (fun hc255 => absurd hc255 (by decide)) (fun hc255 => ?_)
          refine g_iload C X231 at_258 260 rfl ?_
          refine g_callS0 C X231 (b_19 hw) at_260 [(.int r2)] [] 0 (rm15 hw Z220) N231 pd_10 e231 263 (fun T232 _ X232 N232 e232 => ?_)
          rw [hr231]
          refine g_if_ne C X232 at_263 269 266 (fun hc263 => ?_) (fun hc263 => absurd hc263 hc244)
          refine g_iload C X232 at_269 271 rfl ?_
          refine g_iconst C X232 at_271 272 (v := 1) rfl ?_
          refine g_icmp_le C X232 at_272 286 275 (fun hc272 => absurd hc272 (by decide)) (fun hc272 => ?_)
          refine g_iload C X232 at_275 277 rfl ?_
          refine g_callS0 C X232 (b_19 hw) at_277 [(.int r3)] [] 0 (rm15 hw Z220) N232 pd_10 e232 280 (fun T233 _ X233 N233 e233 => ?_)
          rw [hr230]
          refine g_if_ne C X233 at_280 286 283 (fun hc280 => ?_) (fun hc280 => absurd hc280 hc228)
          refine g_iload C X233 at_286 288 rfl ?_
          refine g_iconst C X233 at_288 289 (v := 2) rfl ?_
          refine g_icmp_le C X233 at_289 303 292 (fun hc289 => absurd hc289 (by decide)) (fun hc289 => ?_)
          refine g_iload C X233 at_292 294 rfl ?_
          refine g_callS0 C X233 (b_19 hw) at_294 [(.int r4)] [] 0 (rm15 hw Z220) N233 pd_10 e233 297 (fun T234 _ X234 N234 e234 => ?_)
          rw [hr229]
          refine g_if_ne C X234 at_297 303 300 (fun hc297 => ?_) (fun hc297 => absurd hc297 hc211)
          refine g_iload C X234 at_303 305 rfl ?_
          refine g_iconst C X234 at_305 306 (v := 3) rfl ?_
          refine g_icmp_le C X234 at_306 320 309 (fun hc306 => ?_) (fun hc306 => absurd hc306 (by decide))
          refine g_iconst C X234 at_320 321 (v := 0) rfl ?_
          refine g_iload C X234 at_321 323 rfl ?_
          refine g_iload C X234 at_323 325 rfl ?_
          refine g_isub C X234 at_325 326 ?_
          rw [show ((0 : Int32) - (3 : Int32)) = (-3 : Int32) from by decide]
          refine g_callS0 C X234 (b_16 hw) at_326 [(.int 0), (.int (-3 : Int32))] [] 0 (rm5 hw Z220) N234 pd_11 e234 329 (fun T235 _ X235 N235 e235 => ?_)
          rw [show fMax (0 : Int32) (-3 : Int32) = (0 : Int32) from by decide]
          refine g_istore C X235 at_329 331 (w := 0) rfl (ls' := #[iv p0, iv p1, iv p2, iv p3, iv p4, iv 3, iv r2, iv r3, iv r4, iv r5, rv b6, rv b190, rv b211, iv 3, iv 0, iv 0, uu]) rfl ?_
          refine g_aload C X235 at_331 333 rfl rfl ?_
          refine g_callSH C X235 hS0 hk220 hEL H_220 (w_31 hw) (w_32 hw) (w_33 hw) (w_34 hw) at_333 [(.ref b211)] [] 0 (rm6_3_3_3 hw Z220 hEL q220_0 q220_1 q220_2 q220_3 f224 f225 hcs hwf (own_s1 (own_pk hr2) hr231 hc244) (own_s1 (own_pk hr3) hr230 hc228) (own_s1 (own_pk hr4) hr229 hc211)) pd_20 e235 336 (fun u236 T236 L236 C236 X236 hQ236 hS236 A236 => ?_)
          obtain ⟨o3236, o4236, kd3236, rfl, Nq236, Kq236, q236_0, q236_1, q236_2, q236_3⟩ := hQ236
          have N236 := Fr.app N235 Nq236
          have f237 := Sta.keepN f224 Kq236 all0
          have Z236 := Nat.le_trans Z220 Kq236.1
          have H_236 := A236.1
          have R_236 := R_220.trans A236
          refine ret1 ?_
          refine g_astore C236 X236 at_336 338 rfl (ls' := #[iv p0, iv p1, iv p2, iv p3, iv p4, iv 3, iv r2, iv r3, iv r4, iv r5, rv b6, rv b190, rv b211, iv 3, iv 0, iv 0, rv o3236]) rfl ?_
          refine g_aload C236 X236 at_338 340 rfl rfl ?_
          refine g_ifnullN C236 X236 at_340 343 ?_
          refine g_aload C236 X236 at_343 345 rfl rfl ?_
          refine g_callV0 C236 X236 (b_18 hw) q236_0 at_345 [] [] 0 (rm7_0 hw Z236 q236_0 q236_1 q236_2 q236_3 f237 hcs) N236 pd_6 rfl 348 (fun T244 _ X244 N244 e244 => ?_)
          refine g_iload C236 X244 at_348 350 rfl ?_
          refine g_icmp_eq C236 X244 at_350 355 353 (fun hc350 => ?_) (fun hc350 => absurd hc350 (by decide))
          refine g_iload C236 X244 at_355 357 rfl ?_
          refine g_if_le C236 X244 at_357 376 360 (fun hc357 => ?_) (fun hc357 => absurd hc357 (by decide))
          refine g_iload C236 X244 at_376 378 rfl ?_
          refine g_iconst C236 X244 at_378 379 (v := 1) rfl ?_
          refine g_icmp_le C236 X244 at_379 400 382 (fun hc379 => ?_) (fun hc379 => absurd hc379 (by decide))
          refine g_iload C236 X244 at_400 402 rfl ?_
          refine g_iconst C236 X244 at_402 403 (v := 2) rfl ?_
          refine g_icmp_le C236 X244 at_403 424 406 (fun hc403 => ?_) (fun hc403 => absurd hc403 (by decide))
          refine g_iload C236 X244 at_424 426 rfl ?_
          refine g_iconst C236 X244 at_426 427 (v := 3) rfl ?_
          refine g_icmp_le C236 X244 at_427 448 430 (fun hc427 => ?_) (fun hc427 => absurd hc427 (by decide))
          refine g_iconst C236 X244 at_448 449 (v := 1) rfl ?_
          exact g_retNH C236 X244 K hS236 (Nat.le_refl _) hEL H_236 R_236 (by simp) at_449 (by decide) (by decide) e244 ⟨rfl, N244⟩
        · subst hc244
          refine g_iconst C X231 at_247 248 (v := 0) rfl ?_
          refine g_istore C X231 at_248 250 (w := 0) rfl (ls' := #[iv p0, iv p1, iv p2, iv p3, iv p4, iv 3, iv r2, iv r3, iv r4, iv r5, rv b6, rv b190, rv b211, iv 0, uu, uu, uu]) rfl ?_
          refine g_iconst C X231 at_250 251 (v := 0) rfl ?_
          refine g_istore C X231 at_251 253 (w := 0) rfl (ls' := #[iv p0, iv p1, iv p2, iv p3, iv p4, iv 3, iv r2, iv r3, iv r4, iv r5, rv b6, rv b190, rv b211, iv 0, iv 0, uu, uu]) rfl ?_
          refine g_iload C X231 at_253 255 rfl ?_
          refine g_if_le C X231 at_255 269 258 (fun hc255 => absurd hc255 (by decide)) (fun hc255 => ?_)
          refine g_iload C X231 at_258 260 rfl ?_
          refine g_callS0 C X231 (b_19 hw) at_260 [(.int r2)] [] 0 (rm15 hw Z220) N231 pd_10 e231 263 (fun T245 _ X245 N245 e245 => ?_)
          rw [hr231]
          refine g_if_ne C X245 at_263 269 266 (fun hc263 => absurd hc263 (by decide)) (fun hc263 => ?_)
          refine g_iconst C X245 at_266 267 (v := 1) rfl ?_
          refine g_istore C X245 at_267 269 (w := 1) rfl (ls' := #[iv p0, iv p1, iv p2, iv p3, iv p4, iv 3, iv r2, iv r3, iv r4, iv r5, rv b6, rv b190, rv b211, iv 0, iv 1, uu, uu]) rfl ?_
          refine g_iload C X245 at_269 271 rfl ?_
          refine g_iconst C X245 at_271 272 (v := 1) rfl ?_
          refine g_icmp_le C X245 at_272 286 275 (fun hc272 => absurd hc272 (by decide)) (fun hc272 => ?_)
          refine g_iload C X245 at_275 277 rfl ?_
          refine g_callS0 C X245 (b_19 hw) at_277 [(.int r3)] [] 0 (rm15 hw Z220) N245 pd_10 e245 280 (fun T246 _ X246 N246 e246 => ?_)
          rw [hr230]
          refine g_if_ne C X246 at_280 286 283 (fun hc280 => ?_) (fun hc280 => absurd hc280 hc228)
          refine g_iload C X246 at_286 288 rfl ?_
          refine g_iconst C X246 at_288 289 (v := 2) rfl ?_
          refine g_icmp_le C X246 at_289 303 292 (fun hc289 => absurd hc289 (by decide)) (fun hc289 => ?_)
          refine g_iload C X246 at_292 294 rfl ?_
          refine g_callS0 C X246 (b_19 hw) at_294 [(.int r4)] [] 0 (rm15 hw Z220) N246 pd_10 e246 297 (fun T247 _ X247 N247 e247 => ?_)
          rw [hr229]
          refine g_if_ne C X247 at_297 303 300 (fun hc297 => ?_) (fun hc297 => absurd hc297 hc211)
          refine g_iload C X247 at_303 305 rfl ?_
          refine g_iconst C X247 at_305 306 (v := 3) rfl ?_
          refine g_icmp_le C X247 at_306 320 309 (fun hc306 => ?_) (fun hc306 => absurd hc306 (by decide))
          refine g_iconst C X247 at_320 321 (v := 0) rfl ?_
          refine g_iload C X247 at_321 323 rfl ?_
          refine g_iload C X247 at_323 325 rfl ?_
          refine g_isub C X247 at_325 326 ?_
          rw [show (1 : Int32) - 0 = 1 from by decide]
          refine g_callS0 C X247 (b_16 hw) at_326 [(.int 0), (.int 1)] [] 0 (rm5 hw Z220) N247 pd_11 e247 329 (fun T248 _ X248 N248 e248 => ?_)
          rw [show fMax (0 : Int32) (1 : Int32) = (1 : Int32) from by decide]
          refine g_istore C X248 at_329 331 (w := 1) rfl (ls' := #[iv p0, iv p1, iv p2, iv p3, iv p4, iv 3, iv r2, iv r3, iv r4, iv r5, rv b6, rv b190, rv b211, iv 0, iv 1, iv 1, uu]) rfl ?_
          refine g_aload C X248 at_331 333 rfl rfl ?_
          refine g_callS C X248 (w_31 hw) (w_32 hw) (w_33 hw) (w_34 hw) at_333 [(.ref b211)] [] 0 (rm6_3_0_1 hw Z220 q220_0 q220_1 q220_2 q220_3 f224 f225 hcs hwf (own_s0 (own_pk hr2) hr231 rfl) (own_s1 (own_pk hr3) hr230 hc228) (own_s1 (own_pk hr4) hr229 hc211)) pd_20 e248 336 (fun u249 T249 L249 X249 hQ249 => ?_)
          obtain ⟨o3249, o4249, kd3249, rfl, Nq249, szo3249, szo4249, Kq249, q249_0, q249_1, q249_2, q249_3⟩ := hQ249
          have N249 := Fr.app N248 Nq249
          have f256 := Sta.keepN f224 Kq249 all0
          have f257 := Sta.keepN f225 Kq249 all0
          have f258 := f226.keep Kq249 nin0
          have Z249 := Nat.le_trans Z220 Kq249.1
          have hk249 := Nat.le_trans hk220 Kq249.1
          have H_249 := CHv.keep Kq249 all0 H_220
          have R_249 := R_220.trans (CHr.keep Kq249 all0 H_220)
          refine ret1 ?_
          refine g_astore C X249 at_336 338 rfl (ls' := #[iv p0, iv p1, iv p2, iv p3, iv p4, iv 3, iv r2, iv r3, iv r4, iv r5, rv b6, rv b190, rv b211, iv 0, iv 1, iv 1, rv o3249]) rfl ?_
          refine g_aload C X249 at_338 340 rfl rfl ?_
          refine g_ifnullN C X249 at_340 343 ?_
          refine g_aload C X249 at_343 345 rfl rfl ?_
          refine g_callV0 C X249 (b_18 hw) q249_0 at_345 [] [] 0 (rm7_1 hw Z249 q249_0 q249_1 q249_2 q249_3 f256 hcs) N249 pd_6 rfl 348 (fun T263 _ X263 N263 e263 => ?_)
          refine g_iload C X263 at_348 350 rfl ?_
          refine g_icmp_eq C X263 at_350 355 353 (fun hc350 => ?_) (fun hc350 => absurd hc350 (by decide))
          refine g_iload C X263 at_355 357 rfl ?_
          refine g_if_le C X263 at_357 376 360 (fun hc357 => absurd hc357 (by decide)) (fun hc357 => ?_)
          refine g_aload C X263 at_360 362 rfl rfl ?_
          refine g_iconst C X263 at_362 363 (v := 0) rfl ?_
          refine g_callV0 C X263 (b_20 hw) q249_0 at_363 [(.int 0)] [] 0 (rm16_1_0 hw Z249 q249_0 q249_1 q249_2 q249_3 f256 f257 hcs hwf) N263 pd_9 e263 366 (fun T264 _ X264 N264 e264 => ?_)
          obtain ⟨r264, hr264⟩ : ∃ z : Int32, (own_ch (nar .byte (nar .char r2).toInt8.toInt32)) = z := ⟨_, rfl⟩
          rw [hr264]
          refine g_aload C X264 at_366 368 rfl rfl ?_
          refine g_iload C X264 at_368 370 rfl ?_
          refine g_caload C X264 e264 f258 (by decide) (v := (.int (nar .char r2))) rfl at_370 371 ?_
          refine g_icmp_eq C X264 at_371 376 374 (fun hc371 => ?_) (fun hc371 => absurd (hr264.symm.trans (own_eq (own_pk hr2))) hc371)
          refine g_iload C X264 at_376 378 rfl ?_
          refine g_iconst C X264 at_378 379 (v := 1) rfl ?_
          refine g_icmp_le C X264 at_379 400 382 (fun hc379 => ?_) (fun hc379 => absurd hc379 (by decide))
          refine g_iload C X264 at_400 402 rfl ?_
          refine g_iconst C X264 at_402 403 (v := 2) rfl ?_
          refine g_icmp_le C X264 at_403 424 406 (fun hc403 => ?_) (fun hc403 => absurd hc403 (by decide))
          refine g_iload C X264 at_424 426 rfl ?_
          refine g_iconst C X264 at_426 427 (v := 3) rfl ?_
          refine g_icmp_le C X264 at_427 448 430 (fun hc427 => ?_) (fun hc427 => absurd hc427 (by decide))
          refine g_iconst C X264 at_448 449 (v := 1) rfl ?_
          exact g_retNH C X264 K hS0 hk249 hEL H_249 R_249 (by simp) at_449 (by decide) (by decide) e264 ⟨rfl, N264⟩
      · subst hc228
        refine g_iconst C X230 at_231 232 (v := 1) rfl ?_
        refine g_istore C X230 at_232 234 (w := 1) rfl (ls' := #[iv p0, iv p1, iv p2, iv p3, iv p4, iv 3, iv r2, iv r3, iv r4, iv r5, rv b6, rv b190, rv b211, iv 1, uu, uu, uu]) rfl ?_
        refine g_iload C X230 at_234 236 rfl ?_
        refine g_if_le C X230 at_236 250 239 (fun hc236 => absurd hc236 (by decide)) (fun hc236 => ?_)
        refine g_iload C X230 at_239 241 rfl ?_
        refine g_callS0 C X230 (b_19 hw) at_241 [(.int r2)] [] 0 (rm15 hw Z220) N230 pd_10 e230 244 (fun T265 _ X265 N265 e265 => ?_)
        obtain ⟨r265, hr265⟩ : ∃ z : Int32, fSp r2 = z := ⟨_, rfl⟩
        rw [hr265]
        refine g_if_ne C X265 at_244 250 247 (fun hc244 => ?_) (fun hc244 => ?_)
        · refine g_iconst C X265 at_250 251 (v := 0) rfl ?_
          refine g_istore C X265 at_251 253 (w := 0) rfl (ls' := #[iv p0, iv p1, iv p2, iv p3, iv p4, iv 3, iv r2, iv r3, iv r4, iv r5, rv b6, rv b190, rv b211, iv 1, iv 0, uu, uu]) rfl ?_
          refine g_iload C X265 at_253 255 rfl ?_
          refine g_if_le C X265 at_255 269 258 (fun hc255 => absurd hc255 (by decide)) (fun hc255 => ?_)
          refine g_iload C X265 at_258 260 rfl ?_
          refine g_callS0 C X265 (b_19 hw) at_260 [(.int r2)] [] 0 (rm15 hw Z220) N265 pd_10 e265 263 (fun T266 _ X266 N266 e266 => ?_)
          rw [hr265]
          refine g_if_ne C X266 at_263 269 266 (fun hc263 => ?_) (fun hc263 => absurd hc263 hc244)
          refine g_iload C X266 at_269 271 rfl ?_
          refine g_iconst C X266 at_271 272 (v := 1) rfl ?_
          refine g_icmp_le C X266 at_272 286 275 (fun hc272 => absurd hc272 (by decide)) (fun hc272 => ?_)
          refine g_iload C X266 at_275 277 rfl ?_
          refine g_callS0 C X266 (b_19 hw) at_277 [(.int r3)] [] 0 (rm15 hw Z220) N266 pd_10 e266 280 (fun T267 _ X267 N267 e267 => ?_)
          rw [hr230]
          refine g_if_ne C X267 at_280 286 283 (fun hc280 => absurd hc280 (by decide)) (fun hc280 => ?_)
          refine g_iconst C X267 at_283 284 (v := 2) rfl ?_
          refine g_istore C X267 at_284 286 (w := 2) rfl (ls' := #[iv p0, iv p1, iv p2, iv p3, iv p4, iv 3, iv r2, iv r3, iv r4, iv r5, rv b6, rv b190, rv b211, iv 1, iv 2, uu, uu]) rfl ?_
          refine g_iload C X267 at_286 288 rfl ?_
          refine g_iconst C X267 at_288 289 (v := 2) rfl ?_
          refine g_icmp_le C X267 at_289 303 292 (fun hc289 => absurd hc289 (by decide)) (fun hc289 => ?_)
          refine g_iload C X267 at_292 294 rfl ?_
          refine g_callS0 C X267 (b_19 hw) at_294 [(.int r4)] [] 0 (rm15 hw Z220) N267 pd_10 e267 297 (fun T268 _ X268 N268 e268 => ?_)
          rw [hr229]
          refine g_if_ne C X268 at_297 303 300 (fun hc297 => ?_) (fun hc297 => absurd hc297 hc211)
          refine g_iload C X268 at_303 305 rfl ?_
          refine g_iconst C X268 at_305 306 (v := 3) rfl ?_
          refine g_icmp_le C X268 at_306 320 309 (fun hc306 => ?_) (fun hc306 => absurd hc306 (by decide))
          refine g_iconst C X268 at_320 321 (v := 0) rfl ?_
          refine g_iload C X268 at_321 323 rfl ?_
          refine g_iload C X268 at_323 325 rfl ?_
          refine g_isub C X268 at_325 326 ?_
          rw [show (2 : Int32) - 1 = 1 from by decide]
          refine g_callS0 C X268 (b_16 hw) at_326 [(.int 0), (.int 1)] [] 0 (rm5 hw Z220) N268 pd_11 e268 329 (fun T269 _ X269 N269 e269 => ?_)
          rw [show fMax (0 : Int32) (1 : Int32) = (1 : Int32) from by decide]
          refine g_istore C X269 at_329 331 (w := 1) rfl (ls' := #[iv p0, iv p1, iv p2, iv p3, iv p4, iv 3, iv r2, iv r3, iv r4, iv r5, rv b6, rv b190, rv b211, iv 1, iv 2, iv 1, uu]) rfl ?_
          refine g_aload C X269 at_331 333 rfl rfl ?_
          refine g_callS C X269 (w_31 hw) (w_32 hw) (w_33 hw) (w_34 hw) at_333 [(.ref b211)] [] 0 (rm6_3_1_2 hw Z220 q220_0 q220_1 q220_2 q220_3 f224 f225 hcs hwf (own_s1 (own_pk hr2) hr265 hc244) (own_s0 (own_pk hr3) hr230 rfl) (own_s1 (own_pk hr4) hr229 hc211)) pd_20 e269 336 (fun u270 T270 L270 X270 hQ270 => ?_)
          obtain ⟨o3270, o4270, kd3270, rfl, Nq270, szo3270, szo4270, Kq270, q270_0, q270_1, q270_2, q270_3⟩ := hQ270
          have N270 := Fr.app N269 Nq270
          have f277 := Sta.keepN f224 Kq270 all0
          have f278 := Sta.keepN f225 Kq270 all0
          have f279 := f226.keep Kq270 nin0
          have Z270 := Nat.le_trans Z220 Kq270.1
          have hk270 := Nat.le_trans hk220 Kq270.1
          have H_270 := CHv.keep Kq270 all0 H_220
          have R_270 := R_220.trans (CHr.keep Kq270 all0 H_220)
          refine ret1 ?_
          refine g_astore C X270 at_336 338 rfl (ls' := #[iv p0, iv p1, iv p2, iv p3, iv p4, iv 3, iv r2, iv r3, iv r4, iv r5, rv b6, rv b190, rv b211, iv 1, iv 2, iv 1, rv o3270]) rfl ?_
          refine g_aload C X270 at_338 340 rfl rfl ?_
          refine g_ifnullN C X270 at_340 343 ?_
          refine g_aload C X270 at_343 345 rfl rfl ?_
          refine g_callV0 C X270 (b_18 hw) q270_0 at_345 [] [] 0 (rm7_1 hw Z270 q270_0 q270_1 q270_2 q270_3 f277 hcs) N270 pd_6 rfl 348 (fun T284 _ X284 N284 e284 => ?_)
          refine g_iload C X284 at_348 350 rfl ?_
          refine g_icmp_eq C X284 at_350 355 353 (fun hc350 => ?_) (fun hc350 => absurd hc350 (by decide))
          refine g_iload C X284 at_355 357 rfl ?_
          refine g_if_le C X284 at_357 376 360 (fun hc357 => absurd hc357 (by decide)) (fun hc357 => ?_)
          refine g_aload C X284 at_360 362 rfl rfl ?_
          refine g_iconst C X284 at_362 363 (v := 0) rfl ?_
          refine g_callV0 C X284 (b_20 hw) q270_0 at_363 [(.int 0)] [] 0 (rm16_1_0 hw Z270 q270_0 q270_1 q270_2 q270_3 f277 f278 hcs hwf) N284 pd_9 e284 366 (fun T285 _ X285 N285 e285 => ?_)
          obtain ⟨r285, hr285⟩ : ∃ z : Int32, (own_ch (nar .byte (nar .char r3).toInt8.toInt32)) = z := ⟨_, rfl⟩
          rw [hr285]
          refine g_aload C X285 at_366 368 rfl rfl ?_
          refine g_iload C X285 at_368 370 rfl ?_
          refine g_caload C X285 e285 f279 (by decide) (v := (.int (nar .char r3))) rfl at_370 371 ?_
          refine g_icmp_eq C X285 at_371 376 374 (fun hc371 => ?_) (fun hc371 => absurd (hr285.symm.trans (own_eq (own_pk hr3))) hc371)
          refine g_iload C X285 at_376 378 rfl ?_
          refine g_iconst C X285 at_378 379 (v := 1) rfl ?_
          refine g_icmp_le C X285 at_379 400 382 (fun hc379 => ?_) (fun hc379 => absurd hc379 (by decide))
          refine g_iload C X285 at_400 402 rfl ?_
          refine g_iconst C X285 at_402 403 (v := 2) rfl ?_
          refine g_icmp_le C X285 at_403 424 406 (fun hc403 => ?_) (fun hc403 => absurd hc403 (by decide))
          refine g_iload C X285 at_424 426 rfl ?_
          refine g_iconst C X285 at_426 427 (v := 3) rfl ?_
          refine g_icmp_le C X285 at_427 448 430 (fun hc427 => ?_) (fun hc427 => absurd hc427 (by decide))
          refine g_iconst C X285 at_448 449 (v := 1) rfl ?_
          exact g_retNH C X285 K hS0 hk270 hEL H_270 R_270 (by simp) at_449 (by decide) (by decide) e285 ⟨rfl, N285⟩
        · subst hc244
          refine g_iconst C X265 at_247 248 (v := 0) rfl ?_
          refine g_istore C X265 at_248 250 (w := 0) rfl (ls' := #[iv p0, iv p1, iv p2, iv p3, iv p4, iv 3, iv r2, iv r3, iv r4, iv r5, rv b6, rv b190, rv b211, iv 0, uu, uu, uu]) rfl ?_
          refine g_iconst C X265 at_250 251 (v := 0) rfl ?_
          refine g_istore C X265 at_251 253 (w := 0) rfl (ls' := #[iv p0, iv p1, iv p2, iv p3, iv p4, iv 3, iv r2, iv r3, iv r4, iv r5, rv b6, rv b190, rv b211, iv 0, iv 0, uu, uu]) rfl ?_
          refine g_iload C X265 at_253 255 rfl ?_
          refine g_if_le C X265 at_255 269 258 (fun hc255 => absurd hc255 (by decide)) (fun hc255 => ?_)
          refine g_iload C X265 at_258 260 rfl ?_
          refine g_callS0 C X265 (b_19 hw) at_260 [(.int r2)] [] 0 (rm15 hw Z220) N265 pd_10 e265 263 (fun T286 _ X286 N286 e286 => ?_)
          rw [hr265]
          refine g_if_ne C X286 at_263 269 266 (fun hc263 => absurd hc263 (by decide)) (fun hc263 => ?_)
          refine g_iconst C X286 at_266 267 (v := 1) rfl ?_
          refine g_istore C X286 at_267 269 (w := 1) rfl (ls' := #[iv p0, iv p1, iv p2, iv p3, iv p4, iv 3, iv r2, iv r3, iv r4, iv r5, rv b6, rv b190, rv b211, iv 0, iv 1, uu, uu]) rfl ?_
          refine g_iload C X286 at_269 271 rfl ?_
          refine g_iconst C X286 at_271 272 (v := 1) rfl ?_
          refine g_icmp_le C X286 at_272 286 275 (fun hc272 => absurd hc272 (by decide)) (fun hc272 => ?_)
          refine g_iload C X286 at_275 277 rfl ?_
          refine g_callS0 C X286 (b_19 hw) at_277 [(.int r3)] [] 0 (rm15 hw Z220) N286 pd_10 e286 280 (fun T287 _ X287 N287 e287 => ?_)
          rw [hr230]
          refine g_if_ne C X287 at_280 286 283 (fun hc280 => absurd hc280 (by decide)) (fun hc280 => ?_)
          refine g_iconst C X287 at_283 284 (v := 2) rfl ?_
          refine g_istore C X287 at_284 286 (w := 2) rfl (ls' := #[iv p0, iv p1, iv p2, iv p3, iv p4, iv 3, iv r2, iv r3, iv r4, iv r5, rv b6, rv b190, rv b211, iv 0, iv 2, uu, uu]) rfl ?_
          refine g_iload C X287 at_286 288 rfl ?_
          refine g_iconst C X287 at_288 289 (v := 2) rfl ?_
          refine g_icmp_le C X287 at_289 303 292 (fun hc289 => absurd hc289 (by decide)) (fun hc289 => ?_)
          refine g_iload C X287 at_292 294 rfl ?_
          refine g_callS0 C X287 (b_19 hw) at_294 [(.int r4)] [] 0 (rm15 hw Z220) N287 pd_10 e287 297 (fun T288 _ X288 N288 e288 => ?_)
          rw [hr229]
          refine g_if_ne C X288 at_297 303 300 (fun hc297 => ?_) (fun hc297 => absurd hc297 hc211)
          refine g_iload C X288 at_303 305 rfl ?_
          refine g_iconst C X288 at_305 306 (v := 3) rfl ?_
          refine g_icmp_le C X288 at_306 320 309 (fun hc306 => ?_) (fun hc306 => absurd hc306 (by decide))
          refine g_iconst C X288 at_320 321 (v := 0) rfl ?_
          refine g_iload C X288 at_321 323 rfl ?_
          refine g_iload C X288 at_323 325 rfl ?_
          refine g_isub C X288 at_325 326 ?_
          rw [show (2 : Int32) - 0 = 2 from by decide]
          refine g_callS0 C X288 (b_16 hw) at_326 [(.int 0), (.int 2)] [] 0 (rm5 hw Z220) N288 pd_11 e288 329 (fun T289 _ X289 N289 e289 => ?_)
          rw [show fMax (0 : Int32) (2 : Int32) = (2 : Int32) from by decide]
          refine g_istore C X289 at_329 331 (w := 2) rfl (ls' := #[iv p0, iv p1, iv p2, iv p3, iv p4, iv 3, iv r2, iv r3, iv r4, iv r5, rv b6, rv b190, rv b211, iv 0, iv 2, iv 2, uu]) rfl ?_
          refine g_aload C X289 at_331 333 rfl rfl ?_
          refine g_callS C X289 (w_31 hw) (w_32 hw) (w_33 hw) (w_34 hw) at_333 [(.ref b211)] [] 0 (rm6_3_0_2 hw Z220 q220_0 q220_1 q220_2 q220_3 f224 f225 hcs hwf (own_s0 (own_pk hr2) hr265 rfl) (own_s0 (own_pk hr3) hr230 rfl) (own_s1 (own_pk hr4) hr229 hc211)) pd_20 e289 336 (fun u290 T290 L290 X290 hQ290 => ?_)
          obtain ⟨o3290, o4290, kd3290, rfl, Nq290, szo3290, szo4290, Kq290, q290_0, q290_1, q290_2, q290_3⟩ := hQ290
          have N290 := Fr.app N289 Nq290
          have f297 := Sta.keepN f224 Kq290 all0
          have f298 := Sta.keepN f225 Kq290 all0
          have f299 := f226.keep Kq290 nin0
          have Z290 := Nat.le_trans Z220 Kq290.1
          have hk290 := Nat.le_trans hk220 Kq290.1
          have H_290 := CHv.keep Kq290 all0 H_220
          have R_290 := R_220.trans (CHr.keep Kq290 all0 H_220)
          refine ret1 ?_
          refine g_astore C X290 at_336 338 rfl (ls' := #[iv p0, iv p1, iv p2, iv p3, iv p4, iv 3, iv r2, iv r3, iv r4, iv r5, rv b6, rv b190, rv b211, iv 0, iv 2, iv 2, rv o3290]) rfl ?_
          refine g_aload C X290 at_338 340 rfl rfl ?_
          refine g_ifnullN C X290 at_340 343 ?_
          refine g_aload C X290 at_343 345 rfl rfl ?_
          refine g_callV0 C X290 (b_18 hw) q290_0 at_345 [] [] 0 (rm7_2 hw Z290 q290_0 q290_1 q290_2 q290_3 f297 hcs) N290 pd_6 rfl 348 (fun T304 _ X304 N304 e304 => ?_)
          refine g_iload C X304 at_348 350 rfl ?_
          refine g_icmp_eq C X304 at_350 355 353 (fun hc350 => ?_) (fun hc350 => absurd hc350 (by decide))
          refine g_iload C X304 at_355 357 rfl ?_
          refine g_if_le C X304 at_357 376 360 (fun hc357 => absurd hc357 (by decide)) (fun hc357 => ?_)
          refine g_aload C X304 at_360 362 rfl rfl ?_
          refine g_iconst C X304 at_362 363 (v := 0) rfl ?_
          refine g_callV0 C X304 (b_20 hw) q290_0 at_363 [(.int 0)] [] 0 (rm16_2_0 hw Z290 q290_0 q290_1 q290_2 q290_3 f297 f298 hcs hwf) N304 pd_9 e304 366 (fun T305 _ X305 N305 e305 => ?_)
          obtain ⟨r305, hr305⟩ : ∃ z : Int32, (own_ch (nar .byte (nar .char r2).toInt8.toInt32)) = z := ⟨_, rfl⟩
          rw [hr305]
          refine g_aload C X305 at_366 368 rfl rfl ?_
          refine g_iload C X305 at_368 370 rfl ?_
          refine g_caload C X305 e305 f299 (by decide) (v := (.int (nar .char r2))) rfl at_370 371 ?_
          refine g_icmp_eq C X305 at_371 376 374 (fun hc371 => ?_) (fun hc371 => absurd (hr305.symm.trans (own_eq (own_pk hr2))) hc371)
          refine g_iload C X305 at_376 378 rfl ?_
          refine g_iconst C X305 at_378 379 (v := 1) rfl ?_
          refine g_icmp_le C X305 at_379 400 382 (fun hc379 => absurd hc379 (by decide)) (fun hc379 => ?_)
          refine g_aload C X305 at_382 384 rfl rfl ?_
          refine g_iconst C X305 at_384 385 (v := 1) rfl ?_
          refine g_callV0 C X305 (b_20 hw) q290_0 at_385 [(.int 1)] [] 0 (rm16_2_1 hw Z290 q290_0 q290_1 q290_2 q290_3 f297 f298 hcs hwf) N305 pd_9 e305 388 (fun T306 _ X306 N306 e306 => ?_)
          obtain ⟨r306, hr306⟩ : ∃ z : Int32, (own_ch (nar .byte (nar .char r3).toInt8.toInt32)) = z := ⟨_, rfl⟩
          rw [hr306]
          refine g_aload C X306 at_388 390 rfl rfl ?_
          refine g_iload C X306 at_390 392 rfl ?_
          refine g_iconst C X306 at_392 393 (v := 1) rfl ?_
          refine g_iadd C X306 at_393 394 ?_
          rw [show (0 : Int32) + 1 = 1 from by decide]
          refine g_caload C X306 e306 f299 (by decide) (v := (.int (nar .char r3))) rfl at_394 395 ?_
          refine g_icmp_eq C X306 at_395 400 398 (fun hc395 => ?_) (fun hc395 => absurd (hr306.symm.trans (own_eq (own_pk hr3))) hc395)
          refine g_iload C X306 at_400 402 rfl ?_
          refine g_iconst C X306 at_402 403 (v := 2) rfl ?_
          refine g_icmp_le C X306 at_403 424 406 (fun hc403 => ?_) (fun hc403 => absurd hc403 (by decide))
          refine g_iload C X306 at_424 426 rfl ?_
          refine g_iconst C X306 at_426 427 (v := 3) rfl ?_
          refine g_icmp_le C X306 at_427 448 430 (fun hc427 => ?_) (fun hc427 => absurd hc427 (by decide))
          refine g_iconst C X306 at_448 449 (v := 1) rfl ?_
          exact g_retNH C X306 K hS0 hk290 hEL H_290 R_290 (by simp) at_449 (by decide) (by decide) e306 ⟨rfl, N306⟩
    · subst hc211
      refine g_iconst C X229 at_214 215 (v := 2) rfl ?_
      refine g_istore C X229 at_215 217 (w := 2) rfl (ls' := #[iv p0, iv p1, iv p2, iv p3, iv p4, iv 3, iv r2, iv r3, iv r4, iv r5, rv b6, rv b190, rv b211, iv 2, uu, uu, uu]) rfl ?_
      refine g_iload C X229 at_217 219 rfl ?_
      refine g_iconst C X229 at_219 220 (v := 1) rfl ?_
      refine g_icmp_le C X229 at_220 234 223 (fun hc220 => absurd hc220 (by decide)) (fun hc220 => ?_)
      refine g_iload C X229 at_223 225 rfl ?_
      refine g_callS0 C X229 (b_19 hw) at_225 [(.int r3)] [] 0 (rm15 hw Z220) N229 pd_10 e229 228 (fun T307 _ X307 N307 e307 => ?_)
      obtain ⟨r307, hr307⟩ : ∃ z : Int32, fSp r3 = z := ⟨_, rfl⟩
      rw [hr307]
      refine g_if_ne C X307 at_228 234 231 (fun hc228 => ?_) (fun hc228 => ?_)
      · refine g_iload C X307 at_234 236 rfl ?_
        refine g_if_le C X307 at_236 250 239 (fun hc236 => absurd hc236 (by decide)) (fun hc236 => ?_)
        refine g_iload C X307 at_239 241 rfl ?_
        refine g_callS0 C X307 (b_19 hw) at_241 [(.int r2)] [] 0 (rm15 hw Z220) N307 pd_10 e307 244 (fun T308 _ X308 N308 e308 => ?_)
        obtain ⟨r308, hr308⟩ : ∃ z : Int32, fSp r2 = z := ⟨_, rfl⟩
        rw [hr308]
        refine g_if_ne C X308 at_244 250 247 (fun hc244 => ?_) (fun hc244 => ?_)
        · refine g_iconst C X308 at_250 251 (v := 0) rfl ?_
          refine g_istore C X308 at_251 253 (w := 0) rfl (ls' := #[iv p0, iv p1, iv p2, iv p3, iv p4, iv 3, iv r2, iv r3, iv r4, iv r5, rv b6, rv b190, rv b211, iv 2, iv 0, uu, uu]) rfl ?_
          refine g_iload C X308 at_253 255 rfl ?_
          refine g_if_le C X308 at_255 269 258 (fun hc255 => absurd hc255 (by decide)) (fun hc255 => ?_)
          refine g_iload C X308 at_258 260 rfl ?_
          refine g_callS0 C X308 (b_19 hw) at_260 [(.int r2)] [] 0 (rm15 hw Z220) N308 pd_10 e308 263 (fun T309 _ X309 N309 e309 => ?_)
          rw [hr308]
          refine g_if_ne C X309 at_263 269 266 (fun hc263 => ?_) (fun hc263 => absurd hc263 hc244)
          refine g_iload C X309 at_269 271 rfl ?_
          refine g_iconst C X309 at_271 272 (v := 1) rfl ?_
          refine g_icmp_le C X309 at_272 286 275 (fun hc272 => absurd hc272 (by decide)) (fun hc272 => ?_)
          refine g_iload C X309 at_275 277 rfl ?_
          refine g_callS0 C X309 (b_19 hw) at_277 [(.int r3)] [] 0 (rm15 hw Z220) N309 pd_10 e309 280 (fun T310 _ X310 N310 e310 => ?_)
          rw [hr307]
          refine g_if_ne C X310 at_280 286 283 (fun hc280 => ?_) (fun hc280 => absurd hc280 hc228)
          refine g_iload C X310 at_286 288 rfl ?_
          refine g_iconst C X310 at_288 289 (v := 2) rfl ?_
          refine g_icmp_le C X310 at_289 303 292 (fun hc289 => absurd hc289 (by decide)) (fun hc289 => ?_)
          refine g_iload C X310 at_292 294 rfl ?_
          refine g_callS0 C X310 (b_19 hw) at_294 [(.int r4)] [] 0 (rm15 hw Z220) N310 pd_10 e310 297 (fun T311 _ X311 N311 e311 => ?_)
          rw [hr229]
          refine g_if_ne C X311 at_297 303 300 (fun hc297 => absurd hc297 (by decide)) (fun hc297 => ?_)
          refine g_iconst C X311 at_300 301 (v := 3) rfl ?_
          refine g_istore C X311 at_301 303 (w := 3) rfl (ls' := #[iv p0, iv p1, iv p2, iv p3, iv p4, iv 3, iv r2, iv r3, iv r4, iv r5, rv b6, rv b190, rv b211, iv 2, iv 3, uu, uu]) rfl ?_
          refine g_iload C X311 at_303 305 rfl ?_
          refine g_iconst C X311 at_305 306 (v := 3) rfl ?_
          refine g_icmp_le C X311 at_306 320 309 (fun hc306 => ?_) (fun hc306 => absurd hc306 (by decide))
          refine g_iconst C X311 at_320 321 (v := 0) rfl ?_
          refine g_iload C X311 at_321 323 rfl ?_
          refine g_iload C X311 at_323 325 rfl ?_
          refine g_isub C X311 at_325 326 ?_
          rw [show (3 : Int32) - 2 = 1 from by decide]
          refine g_callS0 C X311 (b_16 hw) at_326 [(.int 0), (.int 1)] [] 0 (rm5 hw Z220) N311 pd_11 e311 329 (fun T312 _ X312 N312 e312 => ?_)
          rw [show fMax (0 : Int32) (1 : Int32) = (1 : Int32) from by decide]
          refine g_istore C X312 at_329 331 (w := 1) rfl (ls' := #[iv p0, iv p1, iv p2, iv p3, iv p4, iv 3, iv r2, iv r3, iv r4, iv r5, rv b6, rv b190, rv b211, iv 2, iv 3, iv 1, uu]) rfl ?_
          refine g_aload C X312 at_331 333 rfl rfl ?_
          refine g_callS C X312 (w_31 hw) (w_32 hw) (w_33 hw) (w_34 hw) at_333 [(.ref b211)] [] 0 (rm6_3_2_3 hw Z220 q220_0 q220_1 q220_2 q220_3 f224 f225 hcs hwf (own_s1 (own_pk hr2) hr308 hc244) (own_s1 (own_pk hr3) hr307 hc228) (own_s0 (own_pk hr4) hr229 rfl)) pd_20 e312 336 (fun u313 T313 L313 X313 hQ313 => ?_)
          obtain ⟨o3313, o4313, kd3313, rfl, Nq313, szo3313, szo4313, Kq313, q313_0, q313_1, q313_2, q313_3⟩ := hQ313
          have N313 := Fr.app N312 Nq313
          have f320 := Sta.keepN f224 Kq313 all0
          have f321 := Sta.keepN f225 Kq313 all0
          have f322 := f226.keep Kq313 nin0
          have Z313 := Nat.le_trans Z220 Kq313.1
          have hk313 := Nat.le_trans hk220 Kq313.1
          have H_313 := CHv.keep Kq313 all0 H_220
          have R_313 := R_220.trans (CHr.keep Kq313 all0 H_220)
          refine ret1 ?_
          refine g_astore C X313 at_336 338 rfl (ls' := #[iv p0, iv p1, iv p2, iv p3, iv p4, iv 3, iv r2, iv r3, iv r4, iv r5, rv b6, rv b190, rv b211, iv 2, iv 3, iv 1, rv o3313]) rfl ?_
          refine g_aload C X313 at_338 340 rfl rfl ?_
          refine g_ifnullN C X313 at_340 343 ?_
          refine g_aload C X313 at_343 345 rfl rfl ?_
          refine g_callV0 C X313 (b_18 hw) q313_0 at_345 [] [] 0 (rm7_1 hw Z313 q313_0 q313_1 q313_2 q313_3 f320 hcs) N313 pd_6 rfl 348 (fun T327 _ X327 N327 e327 => ?_)
          refine g_iload C X327 at_348 350 rfl ?_
          refine g_icmp_eq C X327 at_350 355 353 (fun hc350 => ?_) (fun hc350 => absurd hc350 (by decide))
          refine g_iload C X327 at_355 357 rfl ?_
          refine g_if_le C X327 at_357 376 360 (fun hc357 => absurd hc357 (by decide)) (fun hc357 => ?_)
          refine g_aload C X327 at_360 362 rfl rfl ?_
          refine g_iconst C X327 at_362 363 (v := 0) rfl ?_
          refine g_callV0 C X327 (b_20 hw) q313_0 at_363 [(.int 0)] [] 0 (rm16_1_0 hw Z313 q313_0 q313_1 q313_2 q313_3 f320 f321 hcs hwf) N327 pd_9 e327 366 (fun T328 _ X328 N328 e328 => ?_)
          obtain ⟨r328, hr328⟩ : ∃ z : Int32, (own_ch (nar .byte (nar .char r4).toInt8.toInt32)) = z := ⟨_, rfl⟩
          rw [hr328]
          refine g_aload C X328 at_366 368 rfl rfl ?_
          refine g_iload C X328 at_368 370 rfl ?_
          refine g_caload C X328 e328 f322 (by decide) (v := (.int (nar .char r4))) rfl at_370 371 ?_
          refine g_icmp_eq C X328 at_371 376 374 (fun hc371 => ?_) (fun hc371 => absurd (hr328.symm.trans (own_eq (own_pk hr4))) hc371)
          refine g_iload C X328 at_376 378 rfl ?_
          refine g_iconst C X328 at_378 379 (v := 1) rfl ?_
          refine g_icmp_le C X328 at_379 400 382 (fun hc379 => ?_) (fun hc379 => absurd hc379 (by decide))
          refine g_iload C X328 at_400 402 rfl ?_
          refine g_iconst C X328 at_402 403 (v := 2) rfl ?_
          refine g_icmp_le C X328 at_403 424 406 (fun hc403 => ?_) (fun hc403 => absurd hc403 (by decide))
          refine g_iload C X328 at_424 426 rfl ?_
          refine g_iconst C X328 at_426 427 (v := 3) rfl ?_
          refine g_icmp_le C X328 at_427 448 430 (fun hc427 => ?_) (fun hc427 => absurd hc427 (by decide))
          refine g_iconst C X328 at_448 449 (v := 1) rfl ?_
          exact g_retNH C X328 K hS0 hk313 hEL H_313 R_313 (by simp) at_449 (by decide) (by decide) e328 ⟨rfl, N328⟩
        · subst hc244
          refine g_iconst C X308 at_247 248 (v := 0) rfl ?_
          refine g_istore C X308 at_248 250 (w := 0) rfl (ls' := #[iv p0, iv p1, iv p2, iv p3, iv p4, iv 3, iv r2, iv r3, iv r4, iv r5, rv b6, rv b190, rv b211, iv 0, uu, uu, uu]) rfl ?_
          refine g_iconst C X308 at_250 251 (v := 0) rfl ?_
          refine g_istore C X308 at_251 253 (w := 0) rfl (ls' := #[iv p0, iv p1, iv p2, iv p3, iv p4, iv 3, iv r2, iv r3, iv r4, iv r5, rv b6, rv b190, rv b211, iv 0, iv 0, uu, uu]) rfl ?_
          refine g_iload C X308 at_253 255 rfl ?_
          refine g_if_le C X308 at_255 269 258 (fun hc255 => absurd hc255 (by decide)) (fun hc255 => ?_)
          refine g_iload C X308 at_258 260 rfl ?_
          refine g_callS0 C X308 (b_19 hw) at_260 [(.int r2)] [] 0 (rm15 hw Z220) N308 pd_10 e308 263 (fun T329 _ X329 N329 e329 => ?_)
          rw [hr308]
          refine g_if_ne C X329 at_263 269 266 (fun hc263 => absurd hc263 (by decide)) (fun hc263 => ?_)
          refine g_iconst C X329 at_266 267 (v := 1) rfl ?_
          refine g_istore C X329 at_267 269 (w := 1) rfl (ls' := #[iv p0, iv p1, iv p2, iv p3, iv p4, iv 3, iv r2, iv r3, iv r4, iv r5, rv b6, rv b190, rv b211, iv 0, iv 1, uu, uu]) rfl ?_
          refine g_iload C X329 at_269 271 rfl ?_
          refine g_iconst C X329 at_271 272 (v := 1) rfl ?_
          refine g_icmp_le C X329 at_272 286 275 (fun hc272 => absurd hc272 (by decide)) (fun hc272 => ?_)
          refine g_iload C X329 at_275 277 rfl ?_
          refine g_callS0 C X329 (b_19 hw) at_277 [(.int r3)] [] 0 (rm15 hw Z220) N329 pd_10 e329 280 (fun T330 _ X330 N330 e330 => ?_)
          rw [hr307]
          refine g_if_ne C X330 at_280 286 283 (fun hc280 => ?_) (fun hc280 => absurd hc280 hc228)
          refine g_iload C X330 at_286 288 rfl ?_
          refine g_iconst C X330 at_288 289 (v := 2) rfl ?_
          refine g_icmp_le C X330 at_289 303 292 (fun hc289 => absurd hc289 (by decide)) (fun hc289 => ?_)
          refine g_iload C X330 at_292 294 rfl ?_
          refine g_callS0 C X330 (b_19 hw) at_294 [(.int r4)] [] 0 (rm15 hw Z220) N330 pd_10 e330 297 (fun T331 _ X331 N331 e331 => ?_)
          rw [hr229]
          refine g_if_ne C X331 at_297 303 300 (fun hc297 => absurd hc297 (by decide)) (fun hc297 => ?_)
          refine g_iconst C X331 at_300 301 (v := 3) rfl ?_
          refine g_istore C X331 at_301 303 (w := 3) rfl (ls' := #[iv p0, iv p1, iv p2, iv p3, iv p4, iv 3, iv r2, iv r3, iv r4, iv r5, rv b6, rv b190, rv b211, iv 0, iv 3, uu, uu]) rfl ?_
          refine g_iload C X331 at_303 305 rfl ?_
          refine g_iconst C X331 at_305 306 (v := 3) rfl ?_
          refine g_icmp_le C X331 at_306 320 309 (fun hc306 => ?_) (fun hc306 => absurd hc306 (by decide))
          refine g_iconst C X331 at_320 321 (v := 0) rfl ?_
          refine g_iload C X331 at_321 323 rfl ?_
          refine g_iload C X331 at_323 325 rfl ?_
          refine g_isub C X331 at_325 326 ?_
          rw [show (3 : Int32) - 0 = 3 from by decide]
          refine g_callS0 C X331 (b_16 hw) at_326 [(.int 0), (.int 3)] [] 0 (rm5 hw Z220) N331 pd_11 e331 329 (fun T332 _ X332 N332 e332 => ?_)
          rw [show fMax (0 : Int32) (3 : Int32) = (3 : Int32) from by decide]
          refine g_istore C X332 at_329 331 (w := 3) rfl (ls' := #[iv p0, iv p1, iv p2, iv p3, iv p4, iv 3, iv r2, iv r3, iv r4, iv r5, rv b6, rv b190, rv b211, iv 0, iv 3, iv 3, uu]) rfl ?_
          refine g_aload C X332 at_331 333 rfl rfl ?_
          refine g_callS0 C X332 (b_17 hw) at_333 [(.ref b211)] [] 0 (rm6_3_0_3 hw Z220 q220_0 q220_1 q220_2 q220_3 f224 f225 hcs hwf (own_s0 (own_pk hr2) hr308 rfl) (own_s0 (own_pk hr4) hr229 rfl)) N332 pd_20 e332 336 (fun T333 _ X333 N333 e333 => ?_)
          refine g_astore C X333 at_336 338 rfl (ls' := #[iv p0, iv p1, iv p2, iv p3, iv p4, iv 3, iv r2, iv r3, iv r4, iv r5, rv b6, rv b190, rv b211, iv 0, iv 3, iv 3, rv b211]) rfl ?_
          refine g_aload C X333 at_338 340 rfl rfl ?_
          refine g_ifnullN C X333 at_340 343 ?_
          refine g_aload C X333 at_343 345 rfl rfl ?_
          refine g_callV0 C X333 (b_18 hw) q220_0 at_345 [] [] 0 (rm7_3 hw Z220 q220_0 q220_1 q220_2 q220_3 f224 hcs) N333 pd_6 e333 348 (fun T334 _ X334 N334 e334 => ?_)
          refine g_iload C X334 at_348 350 rfl ?_
          refine g_icmp_eq C X334 at_350 355 353 (fun hc350 => ?_) (fun hc350 => absurd hc350 (by decide))
          refine g_iload C X334 at_355 357 rfl ?_
          refine g_if_le C X334 at_357 376 360 (fun hc357 => absurd hc357 (by decide)) (fun hc357 => ?_)
          refine g_aload C X334 at_360 362 rfl rfl ?_
          refine g_iconst C X334 at_362 363 (v := 0) rfl ?_
          refine g_callV0 C X334 (b_20 hw) q220_0 at_363 [(.int 0)] [] 0 (rm16_3_0 hw Z220 q220_0 q220_1 q220_2 q220_3 f224 f225 hcs hwf) N334 pd_9 e334 366 (fun T335 _ X335 N335 e335 => ?_)
          obtain ⟨r335, hr335⟩ : ∃ z : Int32, (own_ch (nar .byte (nar .char r2).toInt8.toInt32)) = z := ⟨_, rfl⟩
          rw [hr335]
          refine g_aload C X335 at_366 368 rfl rfl ?_
          refine g_iload C X335 at_368 370 rfl ?_
          refine g_caload C X335 e335 f226 (by decide) (v := (.int (nar .char r2))) rfl at_370 371 ?_
          refine g_icmp_eq C X335 at_371 376 374 (fun hc371 => ?_) (fun hc371 => absurd (hr335.symm.trans (own_eq (own_pk hr2))) hc371)
          refine g_iload C X335 at_376 378 rfl ?_
          refine g_iconst C X335 at_378 379 (v := 1) rfl ?_
          refine g_icmp_le C X335 at_379 400 382 (fun hc379 => absurd hc379 (by decide)) (fun hc379 => ?_)
          refine g_aload C X335 at_382 384 rfl rfl ?_
          refine g_iconst C X335 at_384 385 (v := 1) rfl ?_
          refine g_callV0 C X335 (b_20 hw) q220_0 at_385 [(.int 1)] [] 0 (rm16_3_1 hw Z220 q220_0 q220_1 q220_2 q220_3 f224 f225 hcs hwf) N335 pd_9 e335 388 (fun T336 _ X336 N336 e336 => ?_)
          obtain ⟨r336, hr336⟩ : ∃ z : Int32, (own_ch (nar .byte (nar .char r3).toInt8.toInt32)) = z := ⟨_, rfl⟩
          rw [hr336]
          refine g_aload C X336 at_388 390 rfl rfl ?_
          refine g_iload C X336 at_390 392 rfl ?_
          refine g_iconst C X336 at_392 393 (v := 1) rfl ?_
          refine g_iadd C X336 at_393 394 ?_
          rw [show (0 : Int32) + 1 = 1 from by decide]
          refine g_caload C X336 e336 f226 (by decide) (v := (.int (nar .char r3))) rfl at_394 395 ?_
          refine g_icmp_eq C X336 at_395 400 398 (fun hc395 => ?_) (fun hc395 => absurd (hr336.symm.trans (own_eq (own_pk hr3))) hc395)
          refine g_iload C X336 at_400 402 rfl ?_
          refine g_iconst C X336 at_402 403 (v := 2) rfl ?_
          refine g_icmp_le C X336 at_403 424 406 (fun hc403 => absurd hc403 (by decide)) (fun hc403 => ?_)
          refine g_aload C X336 at_406 408 rfl rfl ?_
          refine g_iconst C X336 at_408 409 (v := 2) rfl ?_
          refine g_callV0 C X336 (b_20 hw) q220_0 at_409 [(.int 2)] [] 0 (rm16_3_2 hw Z220 q220_0 q220_1 q220_2 q220_3 f224 f225 hcs hwf) N336 pd_9 e336 412 (fun T337 _ X337 N337 e337 => ?_)
          obtain ⟨r337, hr337⟩ : ∃ z : Int32, (own_ch (nar .byte (nar .char r4).toInt8.toInt32)) = z := ⟨_, rfl⟩
          rw [hr337]
          refine g_aload C X337 at_412 414 rfl rfl ?_
          refine g_iload C X337 at_414 416 rfl ?_
          refine g_iconst C X337 at_416 417 (v := 2) rfl ?_
          refine g_iadd C X337 at_417 418 ?_
          rw [show (0 : Int32) + 2 = 2 from by decide]
          refine g_caload C X337 e337 f226 (by decide) (v := (.int (nar .char r4))) rfl at_418 419 ?_
          refine g_icmp_eq C X337 at_419 424 422 (fun hc419 => ?_) (fun hc419 => absurd (hr337.symm.trans (own_eq (own_pk hr4))) hc419)
          refine g_iload C X337 at_424 426 rfl ?_
          refine g_iconst C X337 at_426 427 (v := 3) rfl ?_
          refine g_icmp_le C X337 at_427 448 430 (fun hc427 => ?_) (fun hc427 => absurd hc427 (by decide))
          refine g_iconst C X337 at_448 449 (v := 1) rfl ?_
          exact g_retNH C X337 K hS0 hk220 hEL H_220 R_220 (by simp) at_449 (by decide) (by decide) e337 ⟨rfl, N337⟩
      · subst hc228
        refine g_iconst C X307 at_231 232 (v := 1) rfl ?_
        refine g_istore C X307 at_232 234 (w := 1) rfl (ls' := #[iv p0, iv p1, iv p2, iv p3, iv p4, iv 3, iv r2, iv r3, iv r4, iv r5, rv b6, rv b190, rv b211, iv 1, uu, uu, uu]) rfl ?_
        refine g_iload C X307 at_234 236 rfl ?_
        refine g_if_le C X307 at_236 250 239 (fun hc236 => absurd hc236 (by decide)) (fun hc236 => ?_)
        refine g_iload C X307 at_239 241 rfl ?_
        refine g_callS0 C X307 (b_19 hw) at_241 [(.int r2)] [] 0 (rm15 hw Z220) N307 pd_10 e307 244 (fun T338 _ X338 N338 e338 => ?_)
        obtain ⟨r338, hr338⟩ : ∃ z : Int32, fSp r2 = z := ⟨_, rfl⟩
        rw [hr338]
        refine g_if_ne C X338 at_244 250 247 (fun hc244 => ?_) (fun hc244 => ?_)
        · refine g_iconst C X338 at_250 251 (v := 0) rfl ?_
          refine g_istore C X338 at_251 253 (w := 0) rfl (ls' := #[iv p0, iv p1, iv p2, iv p3, iv p4, iv 3, iv r2, iv r3, iv r4, iv r5, rv b6, rv b190, rv b211, iv 1, iv 0, uu, uu]) rfl ?_
          refine g_iload C X338 at_253 255 rfl ?_
          refine g_if_le C X338 at_255 269 258 (fun hc255 => absurd hc255 (by decide)) (fun hc255 => ?_)
          refine g_iload C X338 at_258 260 rfl ?_
          refine g_callS0 C X338 (b_19 hw) at_260 [(.int r2)] [] 0 (rm15 hw Z220) N338 pd_10 e338 263 (fun T339 _ X339 N339 e339 => ?_)
          rw [hr338]
          refine g_if_ne C X339 at_263 269 266 (fun hc263 => ?_) (fun hc263 => absurd hc263 hc244)
          refine g_iload C X339 at_269 271 rfl ?_
          refine g_iconst C X339 at_271 272 (v := 1) rfl ?_
          refine g_icmp_le C X339 at_272 286 275 (fun hc272 => absurd hc272 (by decide)) (fun hc272 => ?_)
          refine g_iload C X339 at_275 277 rfl ?_
          refine g_callS0 C X339 (b_19 hw) at_277 [(.int r3)] [] 0 (rm15 hw Z220) N339 pd_10 e339 280 (fun T340 _ X340 N340 e340 => ?_)
          rw [hr307]
          refine g_if_ne C X340 at_280 286 283 (fun hc280 => absurd hc280 (by decide)) (fun hc280 => ?_)
          refine g_iconst C X340 at_283 284 (v := 2) rfl ?_
          refine g_istore C X340 at_284 286 (w := 2) rfl (ls' := #[iv p0, iv p1, iv p2, iv p3, iv p4, iv 3, iv r2, iv r3, iv r4, iv r5, rv b6, rv b190, rv b211, iv 1, iv 2, uu, uu]) rfl ?_
          refine g_iload C X340 at_286 288 rfl ?_
          refine g_iconst C X340 at_288 289 (v := 2) rfl ?_
          refine g_icmp_le C X340 at_289 303 292 (fun hc289 => absurd hc289 (by decide)) (fun hc289 => ?_)
          refine g_iload C X340 at_292 294 rfl ?_
          refine g_callS0 C X340 (b_19 hw) at_294 [(.int r4)] [] 0 (rm15 hw Z220) N340 pd_10 e340 297 (fun T341 _ X341 N341 e341 => ?_)
          rw [hr229]
          refine g_if_ne C X341 at_297 303 300 (fun hc297 => absurd hc297 (by decide)) (fun hc297 => ?_)
          refine g_iconst C X341 at_300 301 (v := 3) rfl ?_
          refine g_istore C X341 at_301 303 (w := 3) rfl (ls' := #[iv p0, iv p1, iv p2, iv p3, iv p4, iv 3, iv r2, iv r3, iv r4, iv r5, rv b6, rv b190, rv b211, iv 1, iv 3, uu, uu]) rfl ?_
          refine g_iload C X341 at_303 305 rfl ?_
          refine g_iconst C X341 at_305 306 (v := 3) rfl ?_
          refine g_icmp_le C X341 at_306 320 309 (fun hc306 => ?_) (fun hc306 => absurd hc306 (by decide))
          refine g_iconst C X341 at_320 321 (v := 0) rfl ?_
          refine g_iload C X341 at_321 323 rfl ?_
          refine g_iload C X341 at_323 325 rfl ?_
          refine g_isub C X341 at_325 326 ?_
          rw [show (3 : Int32) - 1 = 2 from by decide]
          refine g_callS0 C X341 (b_16 hw) at_326 [(.int 0), (.int 2)] [] 0 (rm5 hw Z220) N341 pd_11 e341 329 (fun T342 _ X342 N342 e342 => ?_)
          rw [show fMax (0 : Int32) (2 : Int32) = (2 : Int32) from by decide]
          refine g_istore C X342 at_329 331 (w := 2) rfl (ls' := #[iv p0, iv p1, iv p2, iv p3, iv p4, iv 3, iv r2, iv r3, iv r4, iv r5, rv b6, rv b190, rv b211, iv 1, iv 3, iv 2, uu]) rfl ?_
          refine g_aload C X342 at_331 333 rfl rfl ?_
          refine g_callS C X342 (w_31 hw) (w_32 hw) (w_33 hw) (w_34 hw) at_333 [(.ref b211)] [] 0 (rm6_3_1_3 hw Z220 q220_0 q220_1 q220_2 q220_3 f224 f225 hcs hwf (own_s1 (own_pk hr2) hr338 hc244) (own_s0 (own_pk hr3) hr307 rfl) (own_s0 (own_pk hr4) hr229 rfl)) pd_20 e342 336 (fun u343 T343 L343 X343 hQ343 => ?_)
          obtain ⟨o3343, o4343, kd3343, rfl, Nq343, szo3343, szo4343, Kq343, q343_0, q343_1, q343_2, q343_3⟩ := hQ343
          have N343 := Fr.app N342 Nq343
          have f350 := Sta.keepN f224 Kq343 all0
          have f351 := Sta.keepN f225 Kq343 all0
          have f352 := f226.keep Kq343 nin0
          have Z343 := Nat.le_trans Z220 Kq343.1
          have hk343 := Nat.le_trans hk220 Kq343.1
          have H_343 := CHv.keep Kq343 all0 H_220
          have R_343 := R_220.trans (CHr.keep Kq343 all0 H_220)
          refine ret1 ?_
          refine g_astore C X343 at_336 338 rfl (ls' := #[iv p0, iv p1, iv p2, iv p3, iv p4, iv 3, iv r2, iv r3, iv r4, iv r5, rv b6, rv b190, rv b211, iv 1, iv 3, iv 2, rv o3343]) rfl ?_
          refine g_aload C X343 at_338 340 rfl rfl ?_
          refine g_ifnullN C X343 at_340 343 ?_
          refine g_aload C X343 at_343 345 rfl rfl ?_
          refine g_callV0 C X343 (b_18 hw) q343_0 at_345 [] [] 0 (rm7_2 hw Z343 q343_0 q343_1 q343_2 q343_3 f350 hcs) N343 pd_6 rfl 348 (fun T357 _ X357 N357 e357 => ?_)
          refine g_iload C X357 at_348 350 rfl ?_
          refine g_icmp_eq C X357 at_350 355 353 (fun hc350 => ?_) (fun hc350 => absurd hc350 (by decide))
          refine g_iload C X357 at_355 357 rfl ?_
          refine g_if_le C X357 at_357 376 360 (fun hc357 => absurd hc357 (by decide)) (fun hc357 => ?_)
          refine g_aload C X357 at_360 362 rfl rfl ?_
          refine g_iconst C X357 at_362 363 (v := 0) rfl ?_
          refine g_callV0 C X357 (b_20 hw) q343_0 at_363 [(.int 0)] [] 0 (rm16_2_0 hw Z343 q343_0 q343_1 q343_2 q343_3 f350 f351 hcs hwf) N357 pd_9 e357 366 (fun T358 _ X358 N358 e358 => ?_)
          obtain ⟨r358, hr358⟩ : ∃ z : Int32, (own_ch (nar .byte (nar .char r3).toInt8.toInt32)) = z := ⟨_, rfl⟩
          rw [hr358]
          refine g_aload C X358 at_366 368 rfl rfl ?_
          refine g_iload C X358 at_368 370 rfl ?_
          refine g_caload C X358 e358 f352 (by decide) (v := (.int (nar .char r3))) rfl at_370 371 ?_
          refine g_icmp_eq C X358 at_371 376 374 (fun hc371 => ?_) (fun hc371 => absurd (hr358.symm.trans (own_eq (own_pk hr3))) hc371)
          refine g_iload C X358 at_376 378 rfl ?_
          refine g_iconst C X358 at_378 379 (v := 1) rfl ?_
          refine g_icmp_le C X358 at_379 400 382 (fun hc379 => absurd hc379 (by decide)) (fun hc379 => ?_)
          refine g_aload C X358 at_382 384 rfl rfl ?_
          refine g_iconst C X358 at_384 385 (v := 1) rfl ?_
          refine g_callV0 C X358 (b_20 hw) q343_0 at_385 [(.int 1)] [] 0 (rm16_2_1 hw Z343 q343_0 q343_1 q343_2 q343_3 f350 f351 hcs hwf) N358 pd_9 e358 388 (fun T359 _ X359 N359 e359 => ?_)
          obtain ⟨r359, hr359⟩ : ∃ z : Int32, (own_ch (nar .byte (nar .char r4).toInt8.toInt32)) = z := ⟨_, rfl⟩
          rw [hr359]
          refine g_aload C X359 at_388 390 rfl rfl ?_
          refine g_iload C X359 at_390 392 rfl ?_
          refine g_iconst C X359 at_392 393 (v := 1) rfl ?_
          refine g_iadd C X359 at_393 394 ?_
          rw [show (1 : Int32) + 1 = 2 from by decide]
          refine g_caload C X359 e359 f352 (by decide) (v := (.int (nar .char r4))) rfl at_394 395 ?_
          refine g_icmp_eq C X359 at_395 400 398 (fun hc395 => ?_) (fun hc395 => absurd (hr359.symm.trans (own_eq (own_pk hr4))) hc395)
          refine g_iload C X359 at_400 402 rfl ?_
          refine g_iconst C X359 at_402 403 (v := 2) rfl ?_
          refine g_icmp_le C X359 at_403 424 406 (fun hc403 => ?_) (fun hc403 => absurd hc403 (by decide))
          refine g_iload C X359 at_424 426 rfl ?_
          refine g_iconst C X359 at_426 427 (v := 3) rfl ?_
          refine g_icmp_le C X359 at_427 448 430 (fun hc427 => ?_) (fun hc427 => absurd hc427 (by decide))
          refine g_iconst C X359 at_448 449 (v := 1) rfl ?_
          exact g_retNH C X359 K hS0 hk343 hEL H_343 R_343 (by simp) at_449 (by decide) (by decide) e359 ⟨rfl, N359⟩
        · subst hc244
          refine g_iconst C X338 at_247 248 (v := 0) rfl ?_
          refine g_istore C X338 at_248 250 (w := 0) rfl (ls' := #[iv p0, iv p1, iv p2, iv p3, iv p4, iv 3, iv r2, iv r3, iv r4, iv r5, rv b6, rv b190, rv b211, iv 0, uu, uu, uu]) rfl ?_
          refine g_iconst C X338 at_250 251 (v := 0) rfl ?_
          refine g_istore C X338 at_251 253 (w := 0) rfl (ls' := #[iv p0, iv p1, iv p2, iv p3, iv p4, iv 3, iv r2, iv r3, iv r4, iv r5, rv b6, rv b190, rv b211, iv 0, iv 0, uu, uu]) rfl ?_
          refine g_iload C X338 at_253 255 rfl ?_
          refine g_if_le C X338 at_255 269 258 (fun hc255 => absurd hc255 (by decide)) (fun hc255 => ?_)
          refine g_iload C X338 at_258 260 rfl ?_
          refine g_callS0 C X338 (b_19 hw) at_260 [(.int r2)] [] 0 (rm15 hw Z220) N338 pd_10 e338 263 (fun T360 _ X360 N360 e360 => ?_)
          rw [hr338]
          refine g_if_ne C X360 at_263 269 266 (fun hc263 => absurd hc263 (by decide)) (fun hc263 => ?_)
          refine g_iconst C X360 at_266 267 (v := 1) rfl ?_
          refine g_istore C X360 at_267 269 (w := 1) rfl (ls' := #[iv p0, iv p1, iv p2, iv p3, iv p4, iv 3, iv r2, iv r3, iv r4, iv r5, rv b6, rv b190, rv b211, iv 0, iv 1, uu, uu]) rfl ?_
          refine g_iload C X360 at_269 271 rfl ?_
          refine g_iconst C X360 at_271 272 (v := 1) rfl ?_
          refine g_icmp_le C X360 at_272 286 275 (fun hc272 => absurd hc272 (by decide)) (fun hc272 => ?_)
          refine g_iload C X360 at_275 277 rfl ?_
          refine g_callS0 C X360 (b_19 hw) at_277 [(.int r3)] [] 0 (rm15 hw Z220) N360 pd_10 e360 280 (fun T361 _ X361 N361 e361 => ?_)
          rw [hr307]
          refine g_if_ne C X361 at_280 286 283 (fun hc280 => absurd hc280 (by decide)) (fun hc280 => ?_)
          refine g_iconst C X361 at_283 284 (v := 2) rfl ?_
          refine g_istore C X361 at_284 286 (w := 2) rfl (ls' := #[iv p0, iv p1, iv p2, iv p3, iv p4, iv 3, iv r2, iv r3, iv r4, iv r5, rv b6, rv b190, rv b211, iv 0, iv 2, uu, uu]) rfl ?_
          refine g_iload C X361 at_286 288 rfl ?_
          refine g_iconst C X361 at_288 289 (v := 2) rfl ?_
          refine g_icmp_le C X361 at_289 303 292 (fun hc289 => absurd hc289 (by decide)) (fun hc289 => ?_)
          refine g_iload C X361 at_292 294 rfl ?_
          refine g_callS0 C X361 (b_19 hw) at_294 [(.int r4)] [] 0 (rm15 hw Z220) N361 pd_10 e361 297 (fun T362 _ X362 N362 e362 => ?_)
          rw [hr229]
          refine g_if_ne C X362 at_297 303 300 (fun hc297 => absurd hc297 (by decide)) (fun hc297 => ?_)
          refine g_iconst C X362 at_300 301 (v := 3) rfl ?_
          refine g_istore C X362 at_301 303 (w := 3) rfl (ls' := #[iv p0, iv p1, iv p2, iv p3, iv p4, iv 3, iv r2, iv r3, iv r4, iv r5, rv b6, rv b190, rv b211, iv 0, iv 3, uu, uu]) rfl ?_
          refine g_iload C X362 at_303 305 rfl ?_
          refine g_iconst C X362 at_305 306 (v := 3) rfl ?_
          refine g_icmp_le C X362 at_306 320 309 (fun hc306 => ?_) (fun hc306 => absurd hc306 (by decide))
          refine g_iconst C X362 at_320 321 (v := 0) rfl ?_
          refine g_iload C X362 at_321 323 rfl ?_
          refine g_iload C X362 at_323 325 rfl ?_
          refine g_isub C X362 at_325 326 ?_
          rw [show (3 : Int32) - 0 = 3 from by decide]
          refine g_callS0 C X362 (b_16 hw) at_326 [(.int 0), (.int 3)] [] 0 (rm5 hw Z220) N362 pd_11 e362 329 (fun T363 _ X363 N363 e363 => ?_)
          rw [show fMax (0 : Int32) (3 : Int32) = (3 : Int32) from by decide]
          refine g_istore C X363 at_329 331 (w := 3) rfl (ls' := #[iv p0, iv p1, iv p2, iv p3, iv p4, iv 3, iv r2, iv r3, iv r4, iv r5, rv b6, rv b190, rv b211, iv 0, iv 3, iv 3, uu]) rfl ?_
          refine g_aload C X363 at_331 333 rfl rfl ?_
          refine g_callS0 C X363 (b_17 hw) at_333 [(.ref b211)] [] 0 (rm6_3_0_3 hw Z220 q220_0 q220_1 q220_2 q220_3 f224 f225 hcs hwf (own_s0 (own_pk hr2) hr338 rfl) (own_s0 (own_pk hr4) hr229 rfl)) N363 pd_20 e363 336 (fun T364 _ X364 N364 e364 => ?_)
          refine g_astore C X364 at_336 338 rfl (ls' := #[iv p0, iv p1, iv p2, iv p3, iv p4, iv 3, iv r2, iv r3, iv r4, iv r5, rv b6, rv b190, rv b211, iv 0, iv 3, iv 3, rv b211]) rfl ?_
          refine g_aload C X364 at_338 340 rfl rfl ?_
          refine g_ifnullN C X364 at_340 343 ?_
          refine g_aload C X364 at_343 345 rfl rfl ?_
          refine g_callV0 C X364 (b_18 hw) q220_0 at_345 [] [] 0 (rm7_3 hw Z220 q220_0 q220_1 q220_2 q220_3 f224 hcs) N364 pd_6 e364 348 (fun T365 _ X365 N365 e365 => ?_)
          refine g_iload C X365 at_348 350 rfl ?_
          refine g_icmp_eq C X365 at_350 355 353 (fun hc350 => ?_) (fun hc350 => absurd hc350 (by decide))
          refine g_iload C X365 at_355 357 rfl ?_
          refine g_if_le C X365 at_357 376 360 (fun hc357 => absurd hc357 (by decide)) (fun hc357 => ?_)
          refine g_aload C X365 at_360 362 rfl rfl ?_
          refine g_iconst C X365 at_362 363 (v := 0) rfl ?_
          refine g_callV0 C X365 (b_20 hw) q220_0 at_363 [(.int 0)] [] 0 (rm16_3_0 hw Z220 q220_0 q220_1 q220_2 q220_3 f224 f225 hcs hwf) N365 pd_9 e365 366 (fun T366 _ X366 N366 e366 => ?_)
          obtain ⟨r366, hr366⟩ : ∃ z : Int32, (own_ch (nar .byte (nar .char r2).toInt8.toInt32)) = z := ⟨_, rfl⟩
          rw [hr366]
          refine g_aload C X366 at_366 368 rfl rfl ?_
          refine g_iload C X366 at_368 370 rfl ?_
          refine g_caload C X366 e366 f226 (by decide) (v := (.int (nar .char r2))) rfl at_370 371 ?_
          refine g_icmp_eq C X366 at_371 376 374 (fun hc371 => ?_) (fun hc371 => absurd (hr366.symm.trans (own_eq (own_pk hr2))) hc371)
          refine g_iload C X366 at_376 378 rfl ?_
          refine g_iconst C X366 at_378 379 (v := 1) rfl ?_
          refine g_icmp_le C X366 at_379 400 382 (fun hc379 => absurd hc379 (by decide)) (fun hc379 => ?_)
          refine g_aload C X366 at_382 384 rfl rfl ?_
          refine g_iconst C X366 at_384 385 (v := 1) rfl ?_
          refine g_callV0 C X366 (b_20 hw) q220_0 at_385 [(.int 1)] [] 0 (rm16_3_1 hw Z220 q220_0 q220_1 q220_2 q220_3 f224 f225 hcs hwf) N366 pd_9 e366 388 (fun T367 _ X367 N367 e367 => ?_)
          obtain ⟨r367, hr367⟩ : ∃ z : Int32, (own_ch (nar .byte (nar .char r3).toInt8.toInt32)) = z := ⟨_, rfl⟩
          rw [hr367]
          refine g_aload C X367 at_388 390 rfl rfl ?_
          refine g_iload C X367 at_390 392 rfl ?_
          refine g_iconst C X367 at_392 393 (v := 1) rfl ?_
          refine g_iadd C X367 at_393 394 ?_
          rw [show (0 : Int32) + 1 = 1 from by decide]
          refine g_caload C X367 e367 f226 (by decide) (v := (.int (nar .char r3))) rfl at_394 395 ?_
          refine g_icmp_eq C X367 at_395 400 398 (fun hc395 => ?_) (fun hc395 => absurd (hr367.symm.trans (own_eq (own_pk hr3))) hc395)
          refine g_iload C X367 at_400 402 rfl ?_
          refine g_iconst C X367 at_402 403 (v := 2) rfl ?_
          refine g_icmp_le C X367 at_403 424 406 (fun hc403 => absurd hc403 (by decide)) (fun hc403 => ?_)
          refine g_aload C X367 at_406 408 rfl rfl ?_
          refine g_iconst C X367 at_408 409 (v := 2) rfl ?_
          refine g_callV0 C X367 (b_20 hw) q220_0 at_409 [(.int 2)] [] 0 (rm16_3_2 hw Z220 q220_0 q220_1 q220_2 q220_3 f224 f225 hcs hwf) N367 pd_9 e367 412 (fun T368 _ X368 N368 e368 => ?_)
          obtain ⟨r368, hr368⟩ : ∃ z : Int32, (own_ch (nar .byte (nar .char r4).toInt8.toInt32)) = z := ⟨_, rfl⟩
          rw [hr368]
          refine g_aload C X368 at_412 414 rfl rfl ?_
          refine g_iload C X368 at_414 416 rfl ?_
          refine g_iconst C X368 at_416 417 (v := 2) rfl ?_
          refine g_iadd C X368 at_417 418 ?_
          rw [show (0 : Int32) + 2 = 2 from by decide]
          refine g_caload C X368 e368 f226 (by decide) (v := (.int (nar .char r4))) rfl at_418 419 ?_
          refine g_icmp_eq C X368 at_419 424 422 (fun hc419 => ?_) (fun hc419 => absurd (hr368.symm.trans (own_eq (own_pk hr4))) hc419)
          refine g_iload C X368 at_424 426 rfl ?_
          refine g_iconst C X368 at_426 427 (v := 3) rfl ?_
          refine g_icmp_le C X368 at_427 448 430 (fun hc427 => ?_) (fun hc427 => absurd hc427 (by decide))
          refine g_iconst C X368 at_448 449 (v := 1) rfl ?_
          exact g_retNH C X368 K hS0 hk220 hEL H_220 R_220 (by simp) at_449 (by decide) (by decide) e368 ⟨rfl, N368⟩
  · subst hsp
    refine g_iload C X22 at_58 60 rfl ?_
    refine g_if_ne C X22 at_60 71 63 (fun hc60 => ?_) (fun hc60 => absurd hc60 (by decide))
    refine g_iload C X22 at_71 73 rfl ?_
    refine g_iconst C X22 at_73 74 (v := 1) rfl ?_
    refine g_icmp_ne C X22 at_74 90 77 (fun hc74 => ?_) (fun hc74 => absurd hc74 (by decide))
    refine g_iload C X22 at_90 92 rfl ?_
    refine g_iconst C X22 at_92 93 (v := 2) rfl ?_
    refine g_icmp_ne C X22 at_93 114 96 (fun hc93 => ?_) (fun hc93 => absurd hc93 (by decide))
    refine g_iload C X22 at_114 116 rfl ?_
    refine g_iconst C X22 at_116 117 (v := 3) rfl ?_
    refine g_icmp_ne C X22 at_117 143 120 (fun hc117 => ?_) (fun hc117 => absurd hc117 (by decide))
    refine g_iconst C X22 at_143 144 (v := 4) rfl ?_
    refine g_newA (aty := .char) (n := (4 : Int32)) C X22 (cap := 4) (w_5 hw) e22 at_144 146 (by decide) (by decide) (by decide) (by decide) (by decide) (fun T369 h369 b369 ki369 X369 e369 g369 E369 A369 => ?_)
    have n370 : b6 ≠ b369 := Nat.ne_of_lt (Nat.lt_of_lt_of_eq f25.lt g369.symm)
    have f371 := f23.ext E369
    have f372 := f24.ext E369
    have f373 := f25.ext E369
    have gn_b369 : n0 ≤ b369 := Nat.le_trans Z22 (Nat.le_of_eq g369.symm)
    have Z369 := Nat.le_trans Z22 E369.1
    have hk369 := Nat.le_trans hk22 E369.1
    have H_369 := H_22.ext E369
    have R_369 := R_22.trans (CHr.ext E369 H_22)
    have f374 : Arv Z h369 b369 ki369 .char 4 [(.int 0), (.int 0), (.int 0), (.int 0)] (.int 0) := A369.pad (pad_rep [] (.int 0) 4)
    refine g_dup C X369 at_146 147 rfl ?_
    refine g_iconst C X369 at_147 148 (v := 0) rfl ?_
    refine g_iload C X369 at_148 150 rfl ?_
    refine g_castore C X369 (i := 0) e369 f374 (by decide) rfl (Nat.le_of_ble_eq_true rfl) at_150 151 (fun T375 h375 X375 e375 W375 A375 => ?_)
    have f376 := f371.wr W375
    have f377 := f372.wr W375
    have f378 := f373.other W375 n370
    have f379 : Arv Z h375 b369 ki369 .char 4 [(.int (nar .char r2)), (.int 0), (.int 0), (.int 0)] (.int 0) := A375
    have N375 := Fr.snoc X375 N22 gn_b369
    have Z375 := Nat.le_trans Z369 (Nat.le_of_eq W375.size.symm)
    have hk375 := Nat.le_trans hk369 (Nat.le_of_eq W375.size.symm)
    have H_375 := H_369.wr W375 (safe_arv C.2.1.alike f374 (by decide))
    have R_375 := R_369.trans (CHr.wr W375 (safe_arv C.2.1.alike f374 (by decide)) H_369)
    refine g_dup C X375 at_151 152 rfl ?_
    refine g_iconst C X375 at_152 153 (v := 1) rfl ?_
    refine g_iload C X375 at_153 155 rfl ?_
    refine g_castore C X375 (i := 1) e375 f379 (by decide) rfl (Nat.le_of_ble_eq_true rfl) at_155 156 (fun T380 h380 X380 e380 W380 A380 => ?_)
    have f381 := f376.wr W380
    have f382 := f377.wr W380
    have f383 := f378.other W380 n370
    have f384 : Arv Z h380 b369 ki369 .char 4 [(.int (nar .char r2)), (.int (nar .char r3)), (.int 0), (.int 0)] (.int 0) := A380
    have N380 := Fr.snoc X380 N375 gn_b369
    have Z380 := Nat.le_trans Z375 (Nat.le_of_eq W380.size.symm)
    have hk380 := Nat.le_trans hk375 (Nat.le_of_eq W380.size.symm)
    have H_380 := H_375.wr W380 (safe_arv C.2.1.alike f379 (by decide))
    have R_380 := R_375.trans (CHr.wr W380 (safe_arv C.2.1.alike f379 (by decide)) H_375)
    refine g_dup C X380 at_156 157 rfl ?_
    refine g_iconst C X380 at_157 158 (v := 2) rfl ?_
    refine g_iload C X380 at_158 160 rfl ?_
    refine g_castore C X380 (i := 2) e380 f384 (by decide) rfl (Nat.le_of_ble_eq_true rfl) at_160 161 (fun T385 h385 X385 e385 W385 A385 => ?_)
    have f386 := f381.wr W385
    have f387 := f382.wr W385
    have f388 := f383.other W385 n370
    have f389 : Arv Z h385 b369 ki369 .char 4 [(.int (nar .char r2)), (.int (nar .char r3)), (.int (nar .char r4)), (.int 0)] (.int 0) := A385
    have N385 := Fr.snoc X385 N380 gn_b369
    have Z385 := Nat.le_trans Z380 (Nat.le_of_eq W385.size.symm)
    have hk385 := Nat.le_trans hk380 (Nat.le_of_eq W385.size.symm)
    have H_385 := H_380.wr W385 (safe_arv C.2.1.alike f384 (by decide))
    have R_385 := R_380.trans (CHr.wr W385 (safe_arv C.2.1.alike f384 (by decide)) H_380)
    refine g_dup C X385 at_161 162 rfl ?_
    refine g_iconst C X385 at_162 163 (v := 3) rfl ?_
    refine g_iload C X385 at_163 165 rfl ?_
    refine g_castore C X385 (i := 3) e385 f389 (by decide) rfl (Nat.le_of_ble_eq_true rfl) at_165 166 (fun T390 h390 X390 e390 W390 A390 => ?_)
    have f391 := f386.wr W390
    have f392 := f387.wr W390
    have f393 := f388.other W390 n370
    have f394 : Arv Z h390 b369 ki369 .char 4 [(.int (nar .char r2)), (.int (nar .char r3)), (.int (nar .char r4)), (.int (nar .char r5))] (.int 0) := A390
    have N390 := Fr.snoc X390 N385 gn_b369
    have Z390 := Nat.le_trans Z385 (Nat.le_of_eq W390.size.symm)
    have hk390 := Nat.le_trans hk385 (Nat.le_of_eq W390.size.symm)
    have H_390 := H_385.wr W390 (safe_arv C.2.1.alike f389 (by decide))
    have R_390 := R_385.trans (CHr.wr W390 (safe_arv C.2.1.alike f389 (by decide)) H_385)
    refine g_astore C X390 at_166 168 rfl (ls' := #[iv p0, iv p1, iv p2, iv p3, iv p4, iv 4, iv r2, iv r3, iv r4, iv r5, rv b6, rv b369, uu, uu, uu, uu, uu]) rfl ?_
    refine g_new C X390 (w_6 hw) (w_7 hw) (w_8 hw) e390 at_168 171 (by decide) (by decide) (fun T395 h395 b395 X395 e395 g395 E395 A395 D395 => ?_)
    have n396 : b369 ≠ b395 := Nat.ne_of_lt (Nat.lt_of_lt_of_eq f394.lt g395.symm)
    have n397 : b6 ≠ b395 := Nat.ne_of_lt (Nat.lt_of_lt_of_eq f393.lt g395.symm)
    have f398 := f391.ext E395
    have f399 := f392.ext E395
    have f400 := f393.ext E395
    have f401 := f394.ext E395
    have gn_b395 : n0 ≤ b395 := Nat.le_trans Z390 (Nat.le_of_eq g395.symm)
    have Z395 := Nat.le_trans Z390 E395.1
    have hk395 := Nat.le_trans hk390 E395.1
    have H_395 := H_390.ext E395
    have R_395 := R_390.trans (CHr.ext E395 H_390)
    have sf_b395_395 := Safe.ext E395 H_390 (Safe.new (Nat.le_of_eq g395.symm))
    have f402 : OFv Z h395 b395 .null := D395 (Or.inr (w_21 hw)) (ty := (.array .byte)) (by decide)
    have f403 : OFc Z h395 b395 := D395 (Or.inr (w_22 hw)) (ty := .byte) (by decide)
    refine g_dup C X395 at_171 172 rfl ?_
    refine g_aload C X395 at_172 174 rfl rfl ?_
    refine g_callI C X395 rfl (w_9 hw) (w_10 hw) (w_8 hw) (w_11 hw) at_174 [(.ref b369)] [(.ref b395)] 1 (rm2_4 hw Z395 A395 f402 f403 f401 f398 gn_b395 (own_le (own_pk hr2)) (own_le (own_pk hr3)) (own_le (own_pk hr4)) (own_le (own_pk hr5)) hcs (Ne.symm n396)) pd_19 e395 177 (fun u404 T404 L404 X404 hQ404 => ?_)
    obtain ⟨o3404, kd3404, rfl, Nq404, szo3404, Kq404, q404_0, q404_1, q404_2, q404_3⟩ := hQ404
    have N404 := Fr.app N390 Nq404
    have f408 := Sta.keepN f398 Kq404 (allS (Exa.ns A395) all0)
    have f409 := Sta.keepN f399 Kq404 (allS (Exa.ns A395) all0)
    have f410 := f400.keep Kq404 (ninS n397 nin0)
    have Z404 := Nat.le_trans Z395 Kq404.1
    have hk404 := Nat.le_trans hk395 Kq404.1
    have H_404 := CHv.keep Kq404 (allS sf_b395_395 all0) H_395
    have R_404 := R_395.trans (CHr.keep Kq404 (allS sf_b395_395 all0) H_395)
    refine ret0 ?_
    refine g_astore C X404 at_177 179 rfl (ls' := #[iv p0, iv p1, iv p2, iv p3, iv p4, iv 4, iv r2, iv r3, iv r4, iv r5, rv b6, rv b369, rv b395, uu, uu, uu, uu]) rfl ?_
    refine g_iload C X404 at_179 181 rfl ?_
    refine g_istore C X404 at_181 183 (w := 4) rfl (ls' := #[iv p0, iv p1, iv p2, iv p3, iv p4, iv 4, iv r2, iv r3, iv r4, iv r5, rv b6, rv b369, rv b395, iv 4, uu, uu, uu]) rfl ?_
    refine g_iload C X404 at_183 185 rfl ?_
    refine g_iconst C X404 at_185 186 (v := 3) rfl ?_
    refine g_icmp_le C X404 at_186 200 189 (fun hc186 => absurd hc186 (by decide)) (fun hc186 => ?_)
    refine g_iload C X404 at_189 191 rfl ?_
    refine g_callS0 C X404 (b_19 hw) at_191 [(.int r5)] [] 0 (rm15 hw Z404) N404 pd_10 rfl 194 (fun T413 _ X413 N413 e413 => ?_)
    obtain ⟨r413, hr413⟩ : ∃ z : Int32, fSp r5 = z := ⟨_, rfl⟩
    rw [hr413]
    refine g_if_ne C X413 at_194 200 197 (fun hc194 => ?_) (fun hc194 => ?_)
    · refine g_iload C X413 at_200 202 rfl ?_
      refine g_iconst C X413 at_202 203 (v := 2) rfl ?_
      refine g_icmp_le C X413 at_203 217 206 (fun hc203 => absurd hc203 (by decide)) (fun hc203 => ?_)
      refine g_iload C X413 at_206 208 rfl ?_
      refine g_callS0 C X413 (b_19 hw) at_208 [(.int r4)] [] 0 (rm15 hw Z404) N413 pd_10 e413 211 (fun T414 _ X414 N414 e414 => ?_)
      obtain ⟨r414, hr414⟩ : ∃ z : Int32, fSp r4 = z := ⟨_, rfl⟩
      rw [hr414]
      refine g_if_ne C X414 at_211 217 214 (fun hc211 => ?_) (fun hc211 => ?_)
      · refine g_iload C X414 at_217 219 rfl ?_
        refine g_iconst C X414 at_219 220 (v := 1) rfl ?_
        refine g_icmp_le C X414 at_220 234 223 (fun hc220 => absurd hc220 (by decide)) (fun hc220 => ?_)
        refine g_iload C X414 at_223 225 rfl ?_
        refine g_callS0 C X414 (b_19 hw) at_225 [(.int r3)] [] 0 (rm15 hw Z404) N414 pd_10 e414 228 (fun T415 _ X415 N415 e415 => ?_)
        obtain ⟨r415, hr415⟩ : ∃ z : Int32, fSp r3 = z := ⟨_, rfl⟩
        rw [hr415]
        refine g_if_ne C X415 at_228 234 231 (fun hc228 => ?_) (fun hc228 => ?_)
        · refine g_iload C X415 at_234 236 rfl ?_
          refine g_if_le C X415 at_236 250 239 (fun hc236 => absurd hc236 (by decide)) (fun hc236 => ?_)
          refine g_iload C X415 at_239 241 rfl ?_
          refine g_callS0 C X415 (b_19 hw) at_241 [(.int r2)] [] 0 (rm15 hw Z404) N415 pd_10 e415 244 (fun T416 _ X416 N416 e416 => ?_)
          obtain ⟨r416, hr416⟩ : ∃ z : Int32, fSp r2 = z := ⟨_, rfl⟩
          rw [hr416]
          refine g_if_ne C X416 at_244 250 247 (fun hc244 => ?_) (fun hc244 => ?_)
          · refine g_iconst C X416 at_250 251 (v := 0) rfl ?_
            refine g_istore C X416 at_251 253 (w := 0) rfl (ls' := #[iv p0, iv p1, iv p2, iv p3, iv p4, iv 4, iv r2, iv r3, iv r4, iv r5, rv b6, rv b369, rv b395, iv 4, iv 0, uu, uu]) rfl ?_
            refine g_iload C X416 at_253 255 rfl ?_
            refine g_if_le C X416 at_255 269 258 (fun hc255 => absurd hc255 (by decide)) (fun hc255 => ?_)
            refine g_iload C X416 at_258 260 rfl ?_
            refine g_callS0 C X416 (b_19 hw) at_260 [(.int r2)] [] 0 (rm15 hw Z404) N416 pd_10 e416 263 (fun T417 _ X417 N417 e417 => ?_)
            rw [hr416]
            refine g_if_ne C X417 at_263 269 266 (fun hc263 => ?_) (fun hc263 => absurd hc263 hc244)
            refine g_iload C X417 at_269 271 rfl ?_
            refine g_iconst C X417 at_271 272 (v := 1) rfl ?_
            refine g_icmp_le C X417 at_272 286 275 (fun hc272 => absurd hc272 (by decide)) (fun hc272 => ?_)
            refine g_iload C X417 at_275 277 rfl ?_
            refine g_callS0 C X417 (b_19 hw) at_277 [(.int r3)] [] 0 (rm15 hw Z404) N417 pd_10 e417 280 (fun T418 _ X418 N418 e418 => ?_)
            rw [hr415]
            refine g_if_ne C X418 at_280 286 283 (fun hc280 => ?_) (fun hc280 => absurd hc280 hc228)
            refine g_iload C X418 at_286 288 rfl ?_
            refine g_iconst C X418 at_288 289 (v := 2) rfl ?_
            refine g_icmp_le C X418 at_289 303 292 (fun hc289 => absurd hc289 (by decide)) (fun hc289 => ?_)
            refine g_iload C X418 at_292 294 rfl ?_
            refine g_callS0 C X418 (b_19 hw) at_294 [(.int r4)] [] 0 (rm15 hw Z404) N418 pd_10 e418 297 (fun T419 _ X419 N419 e419 => ?_)
            rw [hr414]
            refine g_if_ne C X419 at_297 303 300 (fun hc297 => ?_) (fun hc297 => absurd hc297 hc211)
            refine g_iload C X419 at_303 305 rfl ?_
            refine g_iconst C X419 at_305 306 (v := 3) rfl ?_
            refine g_icmp_le C X419 at_306 320 309 (fun hc306 => absurd hc306 (by decide)) (fun hc306 => ?_)
            refine g_iload C X419 at_309 311 rfl ?_
            refine g_callS0 C X419 (b_19 hw) at_311 [(.int r5)] [] 0 (rm15 hw Z404) N419 pd_10 e419 314 (fun T420 _ X420 N420 e420 => ?_)
            rw [hr413]
            refine g_if_ne C X420 at_314 320 317 (fun hc314 => ?_) (fun hc314 => absurd hc314 hc194)
            refine g_iconst C X420 at_320 321 (v := 0) rfl ?_
            refine g_iload C X420 at_321 323 rfl ?_
            refine g_iload C X420 at_323 325 rfl ?_
            refine g_isub C X420 at_325 326 ?_
            rw [show ((0 : Int32) - (4 : Int32)) = (-4 : Int32) from by decide]
            refine g_callS0 C X420 (b_16 hw) at_326 [(.int 0), (.int (-4 : Int32))] [] 0 (rm5 hw Z404) N420 pd_11 e420 329 (fun T421 _ X421 N421 e421 => ?_)
            rw [show fMax (0 : Int32) (-4 : Int32) = (0 : Int32) from by decide]
            refine g_istore C X421 at_329 331 (w := 0) rfl (ls' := #[iv p0, iv p1, iv p2, iv p3, iv p4, iv 4, iv r2, iv r3, iv r4, iv r5, rv b6, rv b369, rv b395, iv 4, iv 0, iv 0, uu]) rfl ?_
            refine g_aload C X421 at_331 333 rfl rfl ?_
            refine g_callSH C X421 hS0 hk404 hEL H_404 (w_31 hw) (w_32 hw) (w_33 hw) (w_34 hw) at_333 [(.ref b395)] [] 0 (rm6_4_4_4 hw Z404 hEL q404_0 q404_1 q404_2 q404_3 f408 f409 hcs hwf (own_s1 (own_pk hr2) hr416 hc244) (own_s1 (own_pk hr3) hr415 hc228) (own_s1 (own_pk hr4) hr414 hc211) (own_s1 (own_pk hr5) hr413 hc194)) pd_20 e421 336 (fun u422 T422 L422 C422 X422 hQ422 hS422 A422 => ?_)
            obtain ⟨o3422, o4422, kd3422, rfl, Nq422, Kq422, q422_0, q422_1, q422_2, q422_3⟩ := hQ422
            have N422 := Fr.app N421 Nq422
            have f423 := Sta.keepN f408 Kq422 all0
            have Z422 := Nat.le_trans Z404 Kq422.1
            have H_422 := A422.1
            have R_422 := R_404.trans A422
            refine ret1 ?_
            refine g_astore C422 X422 at_336 338 rfl (ls' := #[iv p0, iv p1, iv p2, iv p3, iv p4, iv 4, iv r2, iv r3, iv r4, iv r5, rv b6, rv b369, rv b395, iv 4, iv 0, iv 0, rv o3422]) rfl ?_
            refine g_aload C422 X422 at_338 340 rfl rfl ?_
            refine g_ifnullN C422 X422 at_340 343 ?_
            refine g_aload C422 X422 at_343 345 rfl rfl ?_
            refine g_callV0 C422 X422 (b_18 hw) q422_0 at_345 [] [] 0 (rm7_0 hw Z422 q422_0 q422_1 q422_2 q422_3 f423 hcs) N422 pd_6 rfl 348 (fun T430 _ X430 N430 e430 => ?_)
            refine g_iload C422 X430 at_348 350 rfl ?_
            refine g_icmp_eq C422 X430 at_350 355 353 (fun hc350 => ?_) (fun hc350 => absurd hc350 (by decide))
            refine g_iload C422 X430 at_355 357 rfl ?_
            refine g_if_le C422 X430 at_357 376 360 (fun hc357 => ?_) (fun hc357 => absurd hc357 (by decide))
            refine g_iload C422 X430 at_376 378 rfl ?_
            refine g_iconst C422 X430 at_378 379 (v := 1) rfl ?_
            refine g_icmp_le C422 X430 at_379 400 382 (fun hc379 => ?_) (fun hc379 => absurd hc379 (by decide))
            refine g_iload C422 X430 at_400 402 rfl ?_
            refine g_iconst C422 X430 at_402 403 (v := 2) rfl ?_
            refine g_icmp_le C422 X430 at_403 424 406 (fun hc403 => ?_) (fun hc403 => absurd hc403 (by decide))
            refine g_iload C422 X430 at_424 426 rfl ?_
            refine g_iconst C422 X430 at_426 427 (v := 3) rfl ?_
            refine g_icmp_le C422 X430 at_427 448 430 (fun hc427 => ?_) (fun hc427 => absurd hc427 (by decide))
            refine g_iconst C422 X430 at_448 449 (v := 1) rfl ?_
            exact g_retNH C422 X430 K hS422 (Nat.le_refl _) hEL H_422 R_422 (by simp) at_449 (by decide) (by decide) e430 ⟨rfl, N430⟩
          · subst hc244
            refine g_iconst C X416 at_247 248 (v := 0) rfl ?_
            refine g_istore C X416 at_248 250 (w := 0) rfl (ls' := #[iv p0, iv p1, iv p2, iv p3, iv p4, iv 4, iv r2, iv r3, iv r4, iv r5, rv b6, rv b369, rv b395, iv 0, uu, uu, uu]) rfl ?_
            refine g_iconst C X416 at_250 251 (v := 0) rfl ?_
            refine g_istore C X416 at_251 253 (w := 0) rfl (ls' := #[iv p0, iv p1, iv p2, iv p3, iv p4, iv 4, iv r2, iv r3, iv r4, iv r5, rv b6, rv b369, rv b395, iv 0, iv 0, uu, uu]) rfl ?_
            refine g_iload C X416 at_253 255 rfl ?_
            refine g_if_le C X416 at_255 269 258 (fun hc255 => absurd hc255 (by decide)) (fun hc255 => ?_)
            refine g_iload C X416 at_258 260 rfl ?_
            refine g_callS0 C X416 (b_19 hw) at_260 [(.int r2)] [] 0 (rm15 hw Z404) N416 pd_10 e416 263 (fun T431 _ X431 N431 e431 => ?_)
            rw [hr416]
            refine g_if_ne C X431 at_263 269 266 (fun hc263 => absurd hc263 (by decide)) (fun hc263 => ?_)
            refine g_iconst C X431 at_266 267 (v := 1) rfl ?_
            refine g_istore C X431 at_267 269 (w := 1) rfl (ls' := #[iv p0, iv p1, iv p2, iv p3, iv p4, iv 4, iv r2, iv r3, iv r4, iv r5, rv b6, rv b369, rv b395, iv 0, iv 1, uu, uu]) rfl ?_
            refine g_iload C X431 at_269 271 rfl ?_
            refine g_iconst C X431 at_271 272 (v := 1) rfl ?_
            refine g_icmp_le C X431 at_272 286 275 (fun hc272 => absurd hc272 (by decide)) (fun hc272 => ?_)
            refine g_iload C X431 at_275 277 rfl ?_
            refine g_callS0 C X431 (b_19 hw) at_277 [(.int r3)] [] 0 (rm15 hw Z404) N431 pd_10 e431 280 (fun T432 _ X432 N432 e432 => ?_)
            rw [hr415]
            refine g_if_ne C X432 at_280 286 283 (fun hc280 => ?_) (fun hc280 => absurd hc280 hc228)
            refine g_iload C X432 at_286 288 rfl ?_
            refine g_iconst C X432 at_288 289 (v := 2) rfl ?_
            refine g_icmp_le C X432 at_289 303 292 (fun hc289 => absurd hc289 (by decide)) (fun hc289 => ?_)
            refine g_iload C X432 at_292 294 rfl ?_
            refine g_callS0 C X432 (b_19 hw) at_294 [(.int r4)] [] 0 (rm15 hw Z404) N432 pd_10 e432 297 (fun T433 _ X433 N433 e433 => ?_)
            rw [hr414]
            refine g_if_ne C X433 at_297 303 300 (fun hc297 => ?_) (fun hc297 => absurd hc297 hc211)
            refine g_iload C X433 at_303 305 rfl ?_
            refine g_iconst C X433 at_305 306 (v := 3) rfl ?_
            refine g_icmp_le C X433 at_306 320 309 (fun hc306 => absurd hc306 (by decide)) (fun hc306 => ?_)
            refine g_iload C X433 at_309 311 rfl ?_
            refine g_callS0 C X433 (b_19 hw) at_311 [(.int r5)] [] 0 (rm15 hw Z404) N433 pd_10 e433 314 (fun T434 _ X434 N434 e434 => ?_)
            rw [hr413]
            refine g_if_ne C X434 at_314 320 317 (fun hc314 => ?_) (fun hc314 => absurd hc314 hc194)
            refine g_iconst C X434 at_320 321 (v := 0) rfl ?_
            refine g_iload C X434 at_321 323 rfl ?_
            refine g_iload C X434 at_323 325 rfl ?_
            refine g_isub C X434 at_325 326 ?_
            rw [show (1 : Int32) - 0 = 1 from by decide]
            refine g_callS0 C X434 (b_16 hw) at_326 [(.int 0), (.int 1)] [] 0 (rm5 hw Z404) N434 pd_11 e434 329 (fun T435 _ X435 N435 e435 => ?_)
            rw [show fMax (0 : Int32) (1 : Int32) = (1 : Int32) from by decide]
            refine g_istore C X435 at_329 331 (w := 1) rfl (ls' := #[iv p0, iv p1, iv p2, iv p3, iv p4, iv 4, iv r2, iv r3, iv r4, iv r5, rv b6, rv b369, rv b395, iv 0, iv 1, iv 1, uu]) rfl ?_
            refine g_aload C X435 at_331 333 rfl rfl ?_
            refine g_callS C X435 (w_31 hw) (w_32 hw) (w_33 hw) (w_34 hw) at_333 [(.ref b395)] [] 0 (rm6_4_0_1 hw Z404 q404_0 q404_1 q404_2 q404_3 f408 f409 hcs hwf (own_s0 (own_pk hr2) hr416 rfl) (own_s1 (own_pk hr3) hr415 hc228) (own_s1 (own_pk hr4) hr414 hc211) (own_s1 (own_pk hr5) hr413 hc194)) pd_20 e435 336 (fun u436 T436 L436 X436 hQ436 => ?_)
            obtain ⟨o3436, o4436, kd3436, rfl, Nq436, szo3436, szo4436, Kq436, q436_0, q436_1, q436_2, q436_3⟩ := hQ436
            have N436 := Fr.app N435 Nq436
            have f443 := Sta.keepN f408 Kq436 all0
            have f444 := Sta.keepN f409 Kq436 all0
            have f445 := f410.keep Kq436 nin0
            have Z436 := Nat.le_trans Z404 Kq436.1
            have hk436 := Nat.le_trans hk404 Kq436.1
            have H_436 := CHv.keep Kq436 all0 H_404
            have R_436 := R_404.trans (CHr.keep Kq436 all0 H_404)
            refine ret1 ?_
            refine g_astore C X436 at_336 338 rfl (ls' := #[iv p0, iv p1, iv p2, iv p3, iv p4, iv 4, iv r2, iv r3, iv r4, iv r5, rv b6, rv b369, rv b395, iv 0, iv 1, iv 1, rv o3436]) rfl ?_
            refine g_aload C X436 at_338 340 rfl rfl ?_
            refine g_ifnullN C X436 at_340 343 ?_
            refine g_aload C X436 at_343 345 rfl rfl ?_
            refine g_callV0 C X436 (b_18 hw) q436_0 at_345 [] [] 0 (rm7_1 hw Z436 q436_0 q436_1 q436_2 q436_3 f443 hcs) N436 pd_6 rfl 348 (fun T450 _ X450 N450 e450 => ?_)
            refine g_iload C X450 at_348 350 rfl ?_
            refine g_icmp_eq C X450 at_350 355 353 (fun hc350 => ?_) (fun hc350 => absurd hc350 (by decide))
            refine g_iload C X450 at_355 357 rfl ?_
            refine g_if_le C X450 at_357 376 360 (fun hc357 => absurd hc357 (by decide)) (fun hc357 => ?_)
            refine g_aload C X450 at_360 362 rfl rfl ?_
            refine g_iconst C X450 at_362 363 (v := 0) rfl ?_
            refine g_callV0 C X450 (b_20 hw) q436_0 at_363 [(.int 0)] [] 0 (rm16_1_0 hw Z436 q436_0 q436_1 q436_2 q436_3 f443 f444 hcs hwf) N450 pd_9 e450 366 (fun T451 _ X451 N451 e451 => ?_)
            obtain ⟨r451, hr451⟩ : ∃ z : Int32, (own_ch (nar .byte (nar .char r2).toInt8.toInt32)) = z := ⟨_, rfl⟩
            rw [hr451]
            refine g_aload C X451 at_366 368 rfl rfl ?_
            refine g_iload C X451 at_368 370 rfl ?_
            refine g_caload C X451 e451 f445 (by decide) (v := (.int (nar .char r2))) rfl at_370 371 ?_
            refine g_icmp_eq C X451 at_371 376 374 (fun hc371 => ?_) (fun hc371 => absurd (hr451.symm.trans (own_eq (own_pk hr2))) hc371)
            refine g_iload C X451 at_376 378 rfl ?_
            refine g_iconst C X451 at_378 379 (v := 1) rfl ?_
            refine g_icmp_le C X451 at_379 400 382 (fun hc379 => ?_) (fun hc379 => absurd hc379 (by decide))
            refine g_iload C X451 at_400 402 rfl ?_
            refine g_iconst C X451 at_402 403 (v := 2) rfl ?_
            refine g_icmp_le C X451 at_403 424 406 (fun hc403 => ?_) (fun hc403 => absurd hc403 (by decide))
            refine g_iload C X451 at_424 426 rfl ?_
            refine g_iconst C X451 at_426 427 (v := 3) rfl ?_
            refine g_icmp_le C X451 at_427 448 430 (fun hc427 => ?_) (fun hc427 => absurd hc427 (by decide))
            refine g_iconst C X451 at_448 449 (v := 1) rfl ?_
            exact g_retNH C X451 K hS0 hk436 hEL H_436 R_436 (by simp) at_449 (by decide) (by decide) e451 ⟨rfl, N451⟩
        · subst hc228
          refine g_iconst C X415 at_231 232 (v := 1) rfl ?_
          refine g_istore C X415 at_232 234 (w := 1) rfl (ls' := #[iv p0, iv p1, iv p2, iv p3, iv p4, iv 4, iv r2, iv r3, iv r4, iv r5, rv b6, rv b369, rv b395, iv 1, uu, uu, uu]) rfl ?_
          refine g_iload C X415 at_234 236 rfl ?_
          refine g_if_le C X415 at_236 250 239 (fun hc236 => absurd hc236 (by decide)) (fun hc236 => ?_)
          refine g_iload C X415 at_239 241 rfl ?_
          refine g_callS0 C X415 (b_19 hw) at_241 [(.int r2)] [] 0 (rm15 hw Z404) N415 pd_10 e415 244 (fun T452 _ X452 N452 e452 => ?_)
          obtain ⟨r452, hr452⟩ : ∃ z : Int32, fSp r2 = z := ⟨_, rfl⟩
          rw [hr452]
          refine g_if_ne C X452 at_244 250 247 (fun hc244 => ?_) (fun hc244 => ?_)
          · refine g_iconst C X452 at_250 251 (v := 0) rfl ?_
            refine g_istore C X452 at_251 253 (w := 0) rfl (ls' := #[iv p0, iv p1, iv p2, iv p3, iv p4, iv 4, iv r2, iv r3, iv r4, iv r5, rv b6, rv b369, rv b395, iv 1, iv 0, uu, uu]) rfl ?_
            refine g_iload C X452 at_253 255 rfl ?_
            refine g_if_le C X452 at_255 269 258 (fun hc255 => absurd hc255 (by decide)) (fun hc255 => ?_)
            refine g_iload C X452 at_258 260 rfl ?_
            refine g_callS0 C X452 (b_19 hw) at_260 [(.int r2)] [] 0 (rm15 hw Z404) N452 pd_10 e452 263 (fun T453 _ X453 N453 e453 => ?_)
            rw [hr452]
            refine g_if_ne C X453 at_263 269 266 (fun hc263 => ?_) (fun hc263 => absurd hc263 hc244)
            refine g_iload C X453 at_269 271 rfl ?_
            refine g_iconst C X453 at_271 272 (v := 1) rfl ?_
            refine g_icmp_le C X453 at_272 286 275 (fun hc272 => absurd hc272 (by decide)) (fun hc272 => ?_)
            refine g_iload C X453 at_275 277 rfl ?_
            refine g_callS0 C X453 (b_19 hw) at_277 [(.int r3)] [] 0 (rm15 hw Z404) N453 pd_10 e453 280 (fun T454 _ X454 N454 e454 => ?_)
            rw [hr415]
            refine g_if_ne C X454 at_280 286 283 (fun hc280 => absurd hc280 (by decide)) (fun hc280 => ?_)
            refine g_iconst C X454 at_283 284 (v := 2) rfl ?_
            refine g_istore C X454 at_284 286 (w := 2) rfl (ls' := #[iv p0, iv p1, iv p2, iv p3, iv p4, iv 4, iv r2, iv r3, iv r4, iv r5, rv b6, rv b369, rv b395, iv 1, iv 2, uu, uu]) rfl ?_
            refine g_iload C X454 at_286 288 rfl ?_
            refine g_iconst C X454 at_288 289 (v := 2) rfl ?_
            refine g_icmp_le C X454 at_289 303 292 (fun hc289 => absurd hc289 (by decide)) (fun hc289 => ?_)
            refine g_iload C X454 at_292 294 rfl ?_
            refine g_callS0 C X454 (b_19 hw) at_294 [(.int r4)] [] 0 (rm15 hw Z404) N454 pd_10 e454 297 (fun T455 _ X455 N455 e455 => ?_)
            rw [hr414]
            refine g_if_ne C X455 at_297 303 300 (fun hc297 => ?_) (fun hc297 => absurd hc297 hc211)
            refine g_iload C X455 at_303 305 rfl ?_
            refine g_iconst C X455 at_305 306 (v := 3) rfl ?_
            refine g_icmp_le C X455 at_306 320 309 (fun hc306 => absurd hc306 (by decide)) (fun hc306 => ?_)
            refine g_iload C X455 at_309 311 rfl ?_
            refine g_callS0 C X455 (b_19 hw) at_311 [(.int r5)] [] 0 (rm15 hw Z404) N455 pd_10 e455 314 (fun T456 _ X456 N456 e456 => ?_)
            rw [hr413]
            refine g_if_ne C X456 at_314 320 317 (fun hc314 => ?_) (fun hc314 => absurd hc314 hc194)
            refine g_iconst C X456 at_320 321 (v := 0) rfl ?_
            refine g_iload C X456 at_321 323 rfl ?_
            refine g_iload C X456 at_323 325 rfl ?_
            refine g_isub C X456 at_325 326 ?_
            rw [show (2 : Int32) - 1 = 1 from by decide]
            refine g_callS0 C X456 (b_16 hw) at_326 [(.int 0), (.int 1)] [] 0 (rm5 hw Z404) N456 pd_11 e456 329 (fun T457 _ X457 N457 e457 => ?_)
            rw [show fMax (0 : Int32) (1 : Int32) = (1 : Int32) from by decide]
            refine g_istore C X457 at_329 331 (w := 1) rfl (ls' := #[iv p0, iv p1, iv p2, iv p3, iv p4, iv 4, iv r2, iv r3, iv r4, iv r5, rv b6, rv b369, rv b395, iv 1, iv 2, iv 1, uu]) rfl ?_
            refine g_aload C X457 at_331 333 rfl rfl ?_
            refine g_callS C X457 (w_31 hw) (w_32 hw) (w_33 hw) (w_34 hw) at_333 [(.ref b395)] [] 0 (rm6_4_1_2 hw Z404 q404_0 q404_1 q404_2 q404_3 f408 f409 hcs hwf (own_s1 (own_pk hr2) hr452 hc244) (own_s0 (own_pk hr3) hr415 rfl) (own_s1 (own_pk hr4) hr414 hc211) (own_s1 (own_pk hr5) hr413 hc194)) pd_20 e457 336 (fun u458 T458 L458 X458 hQ458 => ?_)
            obtain ⟨o3458, o4458, kd3458, rfl, Nq458, szo3458, szo4458, Kq458, q458_0, q458_1, q458_2, q458_3⟩ := hQ458
            have N458 := Fr.app N457 Nq458
            have f465 := Sta.keepN f408 Kq458 all0
            have f466 := Sta.keepN f409 Kq458 all0
            have f467 := f410.keep Kq458 nin0
            have Z458 := Nat.le_trans Z404 Kq458.1
            have hk458 := Nat.le_trans hk404 Kq458.1
            have H_458 := CHv.keep Kq458 all0 H_404
            have R_458 := R_404.trans (CHr.keep Kq458 all0 H_404)
            refine ret1 ?_
            refine g_astore C X458 at_336 338 rfl (ls' := #[iv p0, iv p1, iv p2, iv p3, iv p4, iv 4, iv r2, iv r3, iv r4, iv r5, rv b6, rv b369, rv b395, iv 1, iv 2, iv 1, rv o3458]) rfl ?_
            refine g_aload C X458 at_338 340 rfl rfl ?_
            refine g_ifnullN C X458 at_340 343 ?_
            refine g_aload C X458 at_343 345 rfl rfl ?_
            refine g_callV0 C X458 (b_18 hw) q458_0 at_345 [] [] 0 (rm7_1 hw Z458 q458_0 q458_1 q458_2 q458_3 f465 hcs) N458 pd_6 rfl 348 (fun T472 _ X472 N472 e472 => ?_)
            refine g_iload C X472 at_348 350 rfl ?_
            refine g_icmp_eq C X472 at_350 355 353 (fun hc350 => ?_) (fun hc350 => absurd hc350 (by decide))
            refine g_iload C X472 at_355 357 rfl ?_
            refine g_if_le C X472 at_357 376 360 (fun hc357 => absurd hc357 (by decide)) (fun hc357 => ?_)
            refine g_aload C X472 at_360 362 rfl rfl ?_
            refine g_iconst C X472 at_362 363 (v := 0) rfl ?_
            refine g_callV0 C X472 (b_20 hw) q458_0 at_363 [(.int 0)] [] 0 (rm16_1_0 hw Z458 q458_0 q458_1 q458_2 q458_3 f465 f466 hcs hwf) N472 pd_9 e472 366 (fun T473 _ X473 N473 e473 => ?_)
            obtain ⟨r473, hr473⟩ : ∃ z : Int32, (own_ch (nar .byte (nar .char r3).toInt8.toInt32)) = z := ⟨_, rfl⟩
            rw [hr473]
            refine g_aload C X473 at_366 368 rfl rfl ?_
            refine g_iload C X473 at_368 370 rfl ?_
            refine g_caload C X473 e473 f467 (by decide) (v := (.int (nar .char r3))) rfl at_370 371 ?_
            refine g_icmp_eq C X473 at_371 376 374 (fun hc371 => ?_) (fun hc371 => absurd (hr473.symm.trans (own_eq (own_pk hr3))) hc371)
            refine g_iload C X473 at_376 378 rfl ?_
            refine g_iconst C X473 at_378 379 (v := 1) rfl ?_
            refine g_icmp_le C X473 at_379 400 382 (fun hc379 => ?_) (fun hc379 => absurd hc379 (by decide))
            refine g_iload C X473 at_400 402 rfl ?_
            refine g_iconst C X473 at_402 403 (v := 2) rfl ?_
            refine g_icmp_le C X473 at_403 424 406 (fun hc403 => ?_) (fun hc403 => absurd hc403 (by decide))
            refine g_iload C X473 at_424 426 rfl ?_
            refine g_iconst C X473 at_426 427 (v := 3) rfl ?_
            refine g_icmp_le C X473 at_427 448 430 (fun hc427 => ?_) (fun hc427 => absurd hc427 (by decide))
            refine g_iconst C X473 at_448 449 (v := 1) rfl ?_
            exact g_retNH C X473 K hS0 hk458 hEL H_458 R_458 (by simp) at_449 (by decide) (by decide) e473 ⟨rfl, N473⟩
          · subst hc244
            refine g_iconst C X452 at_247 248 (v := 0) rfl ?_
            refine g_istore C X452 at_248 250 (w := 0) rfl (ls' := #[iv p0, iv p1, iv p2, iv p3, iv p4, iv 4, iv r2, iv r3, iv r4, iv r5, rv b6, rv b369, rv b395, iv 0, uu, uu, uu]) rfl ?_
            refine g_iconst C X452 at_250 251 (v := 0) rfl ?_
            refine g_istore C X452 at_251 253 (w := 0) rfl (ls' := #[iv p0, iv p1, iv p2, iv p3, iv p4, iv 4, iv r2, iv r3, iv r4, iv r5, rv b6, rv b369, rv b395, iv 0, iv 0, uu, uu]) rfl ?_
            refine g_iload C X452 at_253 255 rfl ?_
            refine g_if_le C X452 at_255 269 258 (fun hc255 => absurd hc255 (by decide)) (fun hc255 => ?_)
            refine g_iload C X452 at_258 260 rfl ?_
            refine g_callS0 C X452 (b_19 hw) at_260 [(.int r2)] [] 0 (rm15 hw Z404) N452 pd_10 e452 263 (fun T474 _ X474 N474 e474 => ?_)
            rw [hr452]
            refine g_if_ne C X474 at_263 269 266 (fun hc263 => absurd hc263 (by decide)) (fun hc263 => ?_)
            refine g_iconst C X474 at_266 267 (v := 1) rfl ?_
            refine g_istore C X474 at_267 269 (w := 1) rfl (ls' := #[iv p0, iv p1, iv p2, iv p3, iv p4, iv 4, iv r2, iv r3, iv r4, iv r5, rv b6, rv b369, rv b395, iv 0, iv 1, uu, uu]) rfl ?_
            refine g_iload C X474 at_269 271 rfl ?_
            refine g_iconst C X474 at_271 272 (v := 1) rfl ?_
            refine g_icmp_le C X474 at_272 286 275 (fun hc272 => absurd hc272 (by decide)) (fun hc272 => ?_)
            refine g_iload C X474 at_275 277 rfl ?_
            refine g_callS0 C X474 (b_19 hw) at_277 [(.int r3)] [] 0 (rm15 hw Z404) N474 pd_10 e474 280 (fun T475 _ X475 N475 e475 => ?_)
            rw [hr415]
            refine g_if_ne C X475 at_280 286 283 (fun hc280 => absurd hc280 (by decide)) (fun hc280 => ?_)
            refine g_iconst C X475 at_283 284 (v := 2) rfl ?_
            refine g_istore C X475 at_284 286 (w := 2) rfl (ls' := #[iv p0, iv p1, iv p2, iv p3, iv p4, iv 4, iv r2, iv r3, iv r4, iv r5, rv b6, rv b369, rv b395, iv 0, iv 2, uu, uu]) rfl ?_
            refine g_iload C X475 at_286 288 rfl ?_
            refine g_iconst C X475 at_288 289 (v := 2) rfl ?_
            refine g_icmp_le C X475 at_289 303 292 (fun hc289 => absurd hc289 (by decide)) (fun hc289 => ?_)
            refine g_iload C X475 at_292 294 rfl ?_
            refine g_callS0 C X475 (b_19 hw) at_294 [(.int r4)] [] 0 (rm15 hw Z404) N475 pd_10 e475 297 (fun T476 _ X476 N476 e476 => ?_)
            rw [hr414]
            refine g_if_ne C X476 at_297 303 300 (fun hc297 => ?_) (fun hc297 => absurd hc297 hc211)
            refine g_iload C X476 at_303 305 rfl ?_
            refine g_iconst C X476 at_305 306 (v := 3) rfl ?_
            refine g_icmp_le C X476 at_306 320 309 (fun hc306 => absurd hc306 (by decide)) (fun hc306 => ?_)
            refine g_iload C X476 at_309 311 rfl ?_
            refine g_callS0 C X476 (b_19 hw) at_311 [(.int r5)] [] 0 (rm15 hw Z404) N476 pd_10 e476 314 (fun T477 _ X477 N477 e477 => ?_)
            rw [hr413]
            refine g_if_ne C X477 at_314 320 317 (fun hc314 => ?_) (fun hc314 => absurd hc314 hc194)
            refine g_iconst C X477 at_320 321 (v := 0) rfl ?_
            refine g_iload C X477 at_321 323 rfl ?_
            refine g_iload C X477 at_323 325 rfl ?_
            refine g_isub C X477 at_325 326 ?_
            rw [show (2 : Int32) - 0 = 2 from by decide]
            refine g_callS0 C X477 (b_16 hw) at_326 [(.int 0), (.int 2)] [] 0 (rm5 hw Z404) N477 pd_11 e477 329 (fun T478 _ X478 N478 e478 => ?_)
            rw [show fMax (0 : Int32) (2 : Int32) = (2 : Int32) from by decide]
            refine g_istore C X478 at_329 331 (w := 2) rfl (ls' := #[iv p0, iv p1, iv p2, iv p3, iv p4, iv 4, iv r2, iv r3, iv r4, iv r5, rv b6, rv b369, rv b395, iv 0, iv 2, iv 2, uu]) rfl ?_
            refine g_aload C X478 at_331 333 rfl rfl ?_
            refine g_callS C X478 (w_31 hw) (w_32 hw) (w_33 hw) (w_34 hw) at_333 [(.ref b395)] [] 0 (rm6_4_0_2 hw Z404 q404_0 q404_1 q404_2 q404_3 f408 f409 hcs hwf (own_s0 (own_pk hr2) hr452 rfl) (own_s0 (own_pk hr3) hr415 rfl) (own_s1 (own_pk hr4) hr414 hc211) (own_s1 (own_pk hr5) hr413 hc194)) pd_20 e478 336 (fun u479 T479 L479 X479 hQ479 => ?_)
            obtain ⟨o3479, o4479, kd3479, rfl, Nq479, szo3479, szo4479, Kq479, q479_0, q479_1, q479_2, q479_3⟩ := hQ479
            have N479 := Fr.app N478 Nq479
            have f486 := Sta.keepN f408 Kq479 all0
            have f487 := Sta.keepN f409 Kq479 all0
            have f488 := f410.keep Kq479 nin0
            have Z479 := Nat.le_trans Z404 Kq479.1
            have hk479 := Nat.le_trans hk404 Kq479.1
            have H_479 := CHv.keep Kq479 all0 H_404
            have R_479 := R_404.trans (CHr.keep Kq479 all0 H_404)
            refine ret1 ?_
            refine g_astore C X479 at_336 338 rfl (ls' := #[iv p0, iv p1, iv p2, iv p3, iv p4, iv 4, iv r2, iv r3, iv r4, iv r5, rv b6, rv b369, rv b395, iv 0, iv 2, iv 2, rv o3479]) rfl ?_
            refine g_aload C X479 at_338 340 rfl rfl ?_
            refine g_ifnullN C X479 at_340 343 ?_
            refine g_aload C X479 at_343 345 rfl rfl ?_
            refine g_callV0 C X479 (b_18 hw) q479_0 at_345 [] [] 0 (rm7_2 hw Z479 q479_0 q479_1 q479_2 q479_3 f486 hcs) N479 pd_6 rfl 348 (fun T493 _ X493 N493 e493 => ?_)
            refine g_iload C X493 at_348 350 rfl ?_
            refine g_icmp_eq C X493 at_350 355 353 (fun hc350 => ?_) (fun hc350 => absurd hc350 (by decide))
            refine g_iload C X493 at_355 357 rfl ?_
            refine g_if_le C X493 at_357 376 360 (fun hc357 => absurd hc357 (by decide)) (fun hc357 => ?_)
            refine g_aload C X493 at_360 362 rfl rfl ?_
            refine g_iconst C X493 at_362 363 (v := 0) rfl ?_
            refine g_callV0 C X493 (b_20 hw) q479_0 at_363 [(.int 0)] [] 0 (rm16_2_0 hw Z479 q479_0 q479_1 q479_2 q479_3 f486 f487 hcs hwf) N493 pd_9 e493 366 (fun T494 _ X494 N494 e494 => ?_)
            obtain ⟨r494, hr494⟩ : ∃ z : Int32, (own_ch (nar .byte (nar .char r2).toInt8.toInt32)) = z := ⟨_, rfl⟩
            rw [hr494]
            refine g_aload C X494 at_366 368 rfl rfl ?_
            refine g_iload C X494 at_368 370 rfl ?_
            refine g_caload C X494 e494 f488 (by decide) (v := (.int (nar .char r2))) rfl at_370 371 ?_
            refine g_icmp_eq C X494 at_371 376 374 (fun hc371 => ?_) (fun hc371 => absurd (hr494.symm.trans (own_eq (own_pk hr2))) hc371)
            refine g_iload C X494 at_376 378 rfl ?_
            refine g_iconst C X494 at_378 379 (v := 1) rfl ?_
            refine g_icmp_le C X494 at_379 400 382 (fun hc379 => absurd hc379 (by decide)) (fun hc379 => ?_)
            refine g_aload C X494 at_382 384 rfl rfl ?_
            refine g_iconst C X494 at_384 385 (v := 1) rfl ?_
            refine g_callV0 C X494 (b_20 hw) q479_0 at_385 [(.int 1)] [] 0 (rm16_2_1 hw Z479 q479_0 q479_1 q479_2 q479_3 f486 f487 hcs hwf) N494 pd_9 e494 388 (fun T495 _ X495 N495 e495 => ?_)
            obtain ⟨r495, hr495⟩ : ∃ z : Int32, (own_ch (nar .byte (nar .char r3).toInt8.toInt32)) = z := ⟨_, rfl⟩
            rw [hr495]
            refine g_aload C X495 at_388 390 rfl rfl ?_
            refine g_iload C X495 at_390 392 rfl ?_
            refine g_iconst C X495 at_392 393 (v := 1) rfl ?_
            refine g_iadd C X495 at_393 394 ?_
            rw [show (0 : Int32) + 1 = 1 from by decide]
            refine g_caload C X495 e495 f488 (by decide) (v := (.int (nar .char r3))) rfl at_394 395 ?_
            refine g_icmp_eq C X495 at_395 400 398 (fun hc395 => ?_) (fun hc395 => absurd (hr495.symm.trans (own_eq (own_pk hr3))) hc395)
            refine g_iload C X495 at_400 402 rfl ?_
            refine g_iconst C X495 at_402 403 (v := 2) rfl ?_
            refine g_icmp_le C X495 at_403 424 406 (fun hc403 => ?_) (fun hc403 => absurd hc403 (by decide))
            refine g_iload C X495 at_424 426 rfl ?_
            refine g_iconst C X495 at_426 427 (v := 3) rfl ?_
            refine g_icmp_le C X495 at_427 448 430 (fun hc427 => ?_) (fun hc427 => absurd hc427 (by decide))
            refine g_iconst C X495 at_448 449 (v := 1) rfl ?_
            exact g_retNH C X495 K hS0 hk479 hEL H_479 R_479 (by simp) at_449 (by decide) (by decide) e495 ⟨rfl, N495⟩
      · subst hc211
        refine g_iconst C X414 at_214 215 (v := 2) rfl ?_
        refine g_istore C X414 at_215 217 (w := 2) rfl (ls' := #[iv p0, iv p1, iv p2, iv p3, iv p4, iv 4, iv r2, iv r3, iv r4, iv r5, rv b6, rv b369, rv b395, iv 2, uu, uu, uu]) rfl ?_
        refine g_iload C X414 at_217 219 rfl ?_
        refine g_iconst C X414 at_219 220 (v := 1) rfl ?_
        refine g_icmp_le C X414 at_220 234 223 (fun hc220 => absurd hc220 (by decide)) (fun hc220 => ?_)
        refine g_iload C X414 at_223 225 rfl ?_
        refine g_callS0 C X414 (b_19 hw) at_225 [(.int r3)] [] 0 (rm15 hw Z404) N414 pd_10 e414 228 (fun T496 _ X496 N496 e496 => ?_)
        obtain ⟨r496, hr496⟩ : ∃ z : Int32, fSp r3 = z := ⟨_, rfl⟩
        rw [hr496]
        refine g_if_ne C X496 at_228 234 231 (fun hc228 => ?_) (fun hc228 => ?_)
        · refine g_iload C X496 at_234 236 rfl ?_
          refine g_if_le C X496 at_236 250 239 (fun hc236 => absurd hc236 (by decide)) (fun hc236 => ?_)
          refine g_iload C X496 at_239 241 rfl ?_
          refine g_callS0 C X496 (b_19 hw) at_241 [(.int r2)] [] 0 (rm15 hw Z404) N496 pd_10 e496 244 (fun T497 _ X497 N497 e497 => ?_)
          obtain ⟨r497, hr497⟩ : ∃ z : Int32, fSp r2 = z := ⟨_, rfl⟩
          rw [hr497]
          refine g_if_ne C X497 at_244 250 247 (fun hc244 => ?_) (fun hc244 => ?_)
          · refine g_iconst C X497 at_250 251 (v := 0) rfl ?_
            refine g_istore C X497 at_251 253 (w := 0) rfl (ls' := #[iv p0, iv p1, iv p2, iv p3, iv p4, iv 4, iv r2, iv r3, iv r4, iv r5, rv b6, rv b369, rv b395, iv 2, iv 0, uu, uu]) rfl ?_
            refine g_iload C X497 at_253 255 rfl ?_
            refine g_if_le C X497 at_255 269 258 (fun hc255 => absurd hc255 (by decide)) (fun hc255 => ?_)
            refine g_iload C X497 at_258 260 rfl ?_
            refine g_callS0 C X497 (b_19 hw) at_260 [(.int r2)] [] 0 (rm15 hw Z404) N497 pd_10 e497 263 (fun T498 _ X498 N498 e498 => ?_)
            rw [hr497]
            refine g_if_ne C X498 at_263 269 266 (fun hc263 => ?_) (fun hc263 => absurd hc263 hc244)
            refine g_iload C X498 at_269 271 rfl ?_
            refine g_iconst C X498 at_271 272 (v := 1) rfl ?_
            refine g_icmp_le C X498 at_272 286 275 (fun hc272 => absurd hc272 (by decide)) (fun hc272 => ?_)
            refine g_iload C X498 at_275 277 rfl ?_
            refine g_callS0 C X498 (b_19 hw) at_277 [(.int r3)] [] 0 (rm15 hw Z404) N498 pd_10 e498 280 (fun T499 _ X499 N499 e499 => ?_)
            rw [hr496]
            refine g_if_ne C X499 at_280 286 283 (fun hc280 => ?_) (fun hc280 => absurd hc280 hc228)
            refine g_iload C X499 at_286 288 rfl ?_
            refine g_iconst C X499 at_288 289 (v := 2) rfl ?_
            refine g_icmp_le C X499 at_289 303 292 (fun hc289 => absurd hc289 (by decide)) (fun hc289 => ?_)
            refine g_iload C X499 at_292 294 rfl ?_
            refine g_callS0 C X499 (b_19 hw) at_294 [(.int r4)] [] 0 (rm15 hw Z404) N499 pd_10 e499 297 (fun T500 _ X500 N500 e500 => ?_)
            rw [hr414]
            refine g_if_ne C X500 at_297 303 300 (fun hc297 => absurd hc297 (by decide)) (fun hc297 => ?_)
            refine g_iconst C X500 at_300 301 (v := 3) rfl ?_
            refine g_istore C X500 at_301 303 (w := 3) rfl (ls' := #[iv p0, iv p1, iv p2, iv p3, iv p4, iv 4, iv r2, iv r3, iv r4, iv r5, rv b6, rv b369, rv b395, iv 2, iv 3, uu, uu]) rfl ?_
            refine g_iload C X500 at_303 305 rfl ?_
            refine g_iconst C X500 at_305 306 (v := 3) rfl ?_
            refine g_icmp_le C X500 at_306 320 309 (fun hc306 => absurd hc306 (by decide)) (fun hc306 => ?_)
            refine g_iload C X500 at_309 311 rfl ?_
            refine g_callS0 C X500 (b_19 hw) at_311 [(.int r5)] [] 0 (rm15 hw Z404) N500 pd_10 e500 314 (fun T501 _ X501 N501 e501 => ?_)
            rw [hr413]
            refine g_if_ne C X501 at_314 320 317 (fun hc314 => ?_) (fun hc314 => absurd hc314 hc194)
            refine g_iconst C X501 at_320 321 (v := 0) rfl ?_
            refine g_iload C X501 at_321 323 rfl ?_
            refine g_iload C X501 at_323 325 rfl ?_
            refine g_isub C X501 at_325 326 ?_
            rw [show (3 : Int32) - 2 = 1 from by decide]
            refine g_callS0 C X501 (b_16 hw) at_326 [(.int 0), (.int 1)] [] 0 (rm5 hw Z404) N501 pd_11 e501 329 (fun T502 _ X502 N502 e502 => ?_)
            rw [show fMax (0 : Int32) (1 : Int32) = (1 : Int32) from by decide]
            refine g_istore C X502 at_329 331 (w := 1) rfl (ls' := #[iv p0, iv p1, iv p2, iv p3, iv p4, iv 4, iv r2, iv r3, iv r4, iv r5, rv b6, rv b369, rv b395, iv 2, iv 3, iv 1, uu]) rfl ?_
            refine g_aload C X502 at_331 333 rfl rfl ?_
            refine g_callS C X502 (w_31 hw) (w_32 hw) (w_33 hw) (w_34 hw) at_333 [(.ref b395)] [] 0 (rm6_4_2_3 hw Z404 q404_0 q404_1 q404_2 q404_3 f408 f409 hcs hwf (own_s1 (own_pk hr2) hr497 hc244) (own_s1 (own_pk hr3) hr496 hc228) (own_s0 (own_pk hr4) hr414 rfl) (own_s1 (own_pk hr5) hr413 hc194)) pd_20 e502 336 (fun u503 T503 L503 X503 hQ503 => ?_)
            obtain ⟨o3503, o4503, kd3503, rfl, Nq503, szo3503, szo4503, Kq503, q503_0, q503_1, q503_2, q503_3⟩ := hQ503
            have N503 := Fr.app N502 Nq503
            have f510 := Sta.keepN f408 Kq503 all0
            have f511 := Sta.keepN f409 Kq503 all0
            have f512 := f410.keep Kq503 nin0
            have Z503 := Nat.le_trans Z404 Kq503.1
            have hk503 := Nat.le_trans hk404 Kq503.1
            have H_503 := CHv.keep Kq503 all0 H_404
            have R_503 := R_404.trans (CHr.keep Kq503 all0 H_404)
            refine ret1 ?_
            refine g_astore C X503 at_336 338 rfl (ls' := #[iv p0, iv p1, iv p2, iv p3, iv p4, iv 4, iv r2, iv r3, iv r4, iv r5, rv b6, rv b369, rv b395, iv 2, iv 3, iv 1, rv o3503]) rfl ?_
            refine g_aload C X503 at_338 340 rfl rfl ?_
            refine g_ifnullN C X503 at_340 343 ?_
            refine g_aload C X503 at_343 345 rfl rfl ?_
            refine g_callV0 C X503 (b_18 hw) q503_0 at_345 [] [] 0 (rm7_1 hw Z503 q503_0 q503_1 q503_2 q503_3 f510 hcs) N503 pd_6 rfl 348 (fun T517 _ X517 N517 e517 => ?_)
            refine g_iload C X517 at_348 350 rfl ?_
            refine g_icmp_eq C X517 at_350 355 353 (fun hc350 => ?_) (fun hc350 => absurd hc350 (by decide))
            refine g_iload C X517 at_355 357 rfl ?_
            refine g_if_le C X517 at_357 376 360 (fun hc357 => absurd hc357 (by decide)) (fun hc357 => ?_)
            refine g_aload C X517 at_360 362 rfl rfl ?_
            refine g_iconst C X517 at_362 363 (v := 0) rfl ?_
            refine g_callV0 C X517 (b_20 hw) q503_0 at_363 [(.int 0)] [] 0 (rm16_1_0 hw Z503 q503_0 q503_1 q503_2 q503_3 f510 f511 hcs hwf) N517 pd_9 e517 366 (fun T518 _ X518 N518 e518 => ?_)
            obtain ⟨r518, hr518⟩ : ∃ z : Int32, (own_ch (nar .byte (nar .char r4).toInt8.toInt32)) = z := ⟨_, rfl⟩
            rw [hr518]
            refine g_aload C X518 at_366 368 rfl rfl ?_
            refine g_iload C X518 at_368 370 rfl ?_
            refine g_caload C X518 e518 f512 (by decide) (v := (.int (nar .char r4))) rfl at_370 371 ?_
            refine g_icmp_eq C X518 at_371 376 374 (fun hc371 => ?_) (fun hc371 => absurd (hr518.symm.trans (own_eq (own_pk hr4))) hc371)
            refine g_iload C X518 at_376 378 rfl ?_
            refine g_iconst C X518 at_378 379 (v := 1) rfl ?_
            refine g_icmp_le C X518 at_379 400 382 (fun hc379 => ?_) (fun hc379 => absurd hc379 (by decide))
            refine g_iload C X518 at_400 402 rfl ?_
            refine g_iconst C X518 at_402 403 (v := 2) rfl ?_
            refine g_icmp_le C X518 at_403 424 406 (fun hc403 => ?_) (fun hc403 => absurd hc403 (by decide))
            refine g_iload C X518 at_424 426 rfl ?_
            refine g_iconst C X518 at_426 427 (v := 3) rfl ?_
            refine g_icmp_le C X518 at_427 448 430 (fun hc427 => ?_) (fun hc427 => absurd hc427 (by decide))
            refine g_iconst C X518 at_448 449 (v := 1) rfl ?_
            exact g_retNH C X518 K hS0 hk503 hEL H_503 R_503 (by simp) at_449 (by decide) (by decide) e518 ⟨rfl, N518⟩
          · subst hc244
            refine g_iconst C X497 at_247 248 (v := 0) rfl ?_
            refine g_istore C X497 at_248 250 (w := 0) rfl (ls' := #[iv p0, iv p1, iv p2, iv p3, iv p4, iv 4, iv r2, iv r3, iv r4, iv r5, rv b6, rv b369, rv b395, iv 0, uu, uu, uu]) rfl ?_
            refine g_iconst C X497 at_250 251 (v := 0) rfl ?_
            refine g_istore C X497 at_251 253 (w := 0) rfl (ls' := #[iv p0, iv p1, iv p2, iv p3, iv p4, iv 4, iv r2, iv r3, iv r4, iv r5, rv b6, rv b369, rv b395, iv 0, iv 0, uu, uu]) rfl ?_
            refine g_iload C X497 at_253 255 rfl ?_
            refine g_if_le C X497 at_255 269 258 (fun hc255 => absurd hc255 (by decide)) (fun hc255 => ?_)
            refine g_iload C X497 at_258 260 rfl ?_
            refine g_callS0 C X497 (b_19 hw) at_260 [(.int r2)] [] 0 (rm15 hw Z404) N497 pd_10 e497 263 (fun T519 _ X519 N519 e519 => ?_)
            rw [hr497]
            refine g_if_ne C X519 at_263 269 266 (fun hc263 => absurd hc263 (by decide)) (fun hc263 => ?_)
            refine g_iconst C X519 at_266 267 (v := 1) rfl ?_
            refine g_istore C X519 at_267 269 (w := 1) rfl (ls' := #[iv p0, iv p1, iv p2, iv p3, iv p4, iv 4, iv r2, iv r3, iv r4, iv r5, rv b6, rv b369, rv b395, iv 0, iv 1, uu, uu]) rfl ?_
            refine g_iload C X519 at_269 271 rfl ?_
            refine g_iconst C X519 at_271 272 (v := 1) rfl ?_
            refine g_icmp_le C X519 at_272 286 275 (fun hc272 => absurd hc272 (by decide)) (fun hc272 => ?_)
            refine g_iload C X519 at_275 277 rfl ?_
            refine g_callS0 C X519 (b_19 hw) at_277 [(.int r3)] [] 0 (rm15 hw Z404) N519 pd_10 e519 280 (fun T520 _ X520 N520 e520 => ?_)
            rw [hr496]
            refine g_if_ne C X520 at_280 286 283 (fun hc280 => ?_) (fun hc280 => absurd hc280 hc228)
            refine g_iload C X520 at_286 288 rfl ?_
            refine g_iconst C X520 at_288 289 (v := 2) rfl ?_
            refine g_icmp_le C X520 at_289 303 292 (fun hc289 => absurd hc289 (by decide)) (fun hc289 => ?_)
            refine g_iload C X520 at_292 294 rfl ?_
            refine g_callS0 C X520 (b_19 hw) at_294 [(.int r4)] [] 0 (rm15 hw Z404) N520 pd_10 e520 297 (fun T521 _ X521 N521 e521 => ?_)
            rw [hr414]
            refine g_if_ne C X521 at_297 303 300 (fun hc297 => absurd hc297 (by decide)) (fun hc297 => ?_)
            refine g_iconst C X521 at_300 301 (v := 3) rfl ?_
            refine g_istore C X521 at_301 303 (w := 3) rfl (ls' := #[iv p0, iv p1, iv p2, iv p3, iv p4, iv 4, iv r2, iv r3, iv r4, iv r5, rv b6, rv b369, rv b395, iv 0, iv 3, uu, uu]) rfl ?_
            refine g_iload C X521 at_303 305 rfl ?_
            refine g_iconst C X521 at_305 306 (v := 3) rfl ?_
            refine g_icmp_le C X521 at_306 320 309 (fun hc306 => absurd hc306 (by decide)) (fun hc306 => ?_)
            refine g_iload C X521 at_309 311 rfl ?_
            refine g_callS0 C X521 (b_19 hw) at_311 [(.int r5)] [] 0 (rm15 hw Z404) N521 pd_10 e521 314 (fun T522 _ X522 N522 e522 => ?_)
            rw [hr413]
            refine g_if_ne C X522 at_314 320 317 (fun hc314 => ?_) (fun hc314 => absurd hc314 hc194)
            refine g_iconst C X522 at_320 321 (v := 0) rfl ?_
            refine g_iload C X522 at_321 323 rfl ?_
            refine g_iload C X522 at_323 325 rfl ?_
            refine g_isub C X522 at_325 326 ?_
            rw [show (3 : Int32) - 0 = 3 from by decide]
            refine g_callS0 C X522 (b_16 hw) at_326 [(.int 0), (.int 3)] [] 0 (rm5 hw Z404) N522 pd_11 e522 329 (fun T523 _ X523 N523 e523 => ?_)
            rw [show fMax (0 : Int32) (3 : Int32) = (3 : Int32) from by decide]
            refine g_istore C X523 at_329 331 (w := 3) rfl (ls' := #[iv p0, iv p1, iv p2, iv p3, iv p4, iv 4, iv r2, iv r3, iv r4, iv r5, rv b6, rv b369, rv b395, iv 0, iv 3, iv 3, uu]) rfl ?_
            refine g_aload C X523 at_331 333 rfl rfl ?_
            refine g_callS C X523 (w_31 hw) (w_32 hw) (w_33 hw) (w_34 hw) at_333 [(.ref b395)] [] 0 (rm6_4_0_3 hw Z404 q404_0 q404_1 q404_2 q404_3 f408 f409 hcs hwf (own_s0 (own_pk hr2) hr497 rfl) (own_s0 (own_pk hr4) hr414 rfl) (own_s1 (own_pk hr5) hr413 hc194)) pd_20 e523 336 (fun u524 T524 L524 X524 hQ524 => ?_)
            obtain ⟨o3524, o4524, kd3524, rfl, Nq524, szo3524, szo4524, Kq524, q524_0, q524_1, q524_2, q524_3⟩ := hQ524
            have N524 := Fr.app N523 Nq524
            have f531 := Sta.keepN f408 Kq524 all0
            have f532 := Sta.keepN f409 Kq524 all0
            have f533 := f410.keep Kq524 nin0
            have Z524 := Nat.le_trans Z404 Kq524.1
            have hk524 := Nat.le_trans hk404 Kq524.1
            have H_524 := CHv.keep Kq524 all0 H_404
            have R_524 := R_404.trans (CHr.keep Kq524 all0 H_404)
            refine ret1 ?_
            refine g_astore C X524 at_336 338 rfl (ls' := #[iv p0, iv p1, iv p2, iv p3, iv p4, iv 4, iv r2, iv r3, iv r4, iv r5, rv b6, rv b369, rv b395, iv 0, iv 3, iv 3, rv o3524]) rfl ?_
            refine g_aload C X524 at_338 340 rfl rfl ?_
            refine g_ifnullN C X524 at_340 343 ?_
            refine g_aload C X524 at_343 345 rfl rfl ?_
            refine g_callV0 C X524 (b_18 hw) q524_0 at_345 [] [] 0 (rm7_3 hw Z524 q524_0 q524_1 q524_2 q524_3 f531 hcs) N524 pd_6 rfl 348 (fun T538 _ X538 N538 e538 => ?_)
            refine g_iload C X538 at_348 350 rfl ?_
            refine g_icmp_eq C X538 at_350 355 353 (fun hc350 => ?_) (fun hc350 => absurd hc350 (by decide))
            refine g_iload C X538 at_355 357 rfl ?_
            refine g_if_le C X538 at_357 376 360 (fun hc357 => absurd hc357 (by decide)) (fun hc357 => ?_)
            refine g_aload C X538 at_360 362 rfl rfl ?_
            refine g_iconst C X538 at_362 363 (v := 0) rfl ?_
            refine g_callV0 C X538 (b_20 hw) q524_0 at_363 [(.int 0)] [] 0 (rm16_3_0 hw Z524 q524_0 q524_1 q524_2 q524_3 f531 f532 hcs hwf) N538 pd_9 e538 366 (fun T539 _ X539 N539 e539 => ?_)
            obtain ⟨r539, hr539⟩ : ∃ z : Int32, (own_ch (nar .byte (nar .char r2).toInt8.toInt32)) = z := ⟨_, rfl⟩
            rw [hr539]
            refine g_aload C X539 at_366 368 rfl rfl ?_
            refine g_iload C X539 at_368 370 rfl ?_
            refine g_caload C X539 e539 f533 (by decide) (v := (.int (nar .char r2))) rfl at_370 371 ?_
            refine g_icmp_eq C X539 at_371 376 374 (fun hc371 => ?_) (fun hc371 => absurd (hr539.symm.trans (own_eq (own_pk hr2))) hc371)
            refine g_iload C X539 at_376 378 rfl ?_
            refine g_iconst C X539 at_378 379 (v := 1) rfl ?_
            refine g_icmp_le C X539 at_379 400 382 (fun hc379 => absurd hc379 (by decide)) (fun hc379 => ?_)
            refine g_aload C X539 at_382 384 rfl rfl ?_
            refine g_iconst C X539 at_384 385 (v := 1) rfl ?_
            refine g_callV0 C X539 (b_20 hw) q524_0 at_385 [(.int 1)] [] 0 (rm16_3_1 hw Z524 q524_0 q524_1 q524_2 q524_3 f531 f532 hcs hwf) N539 pd_9 e539 388 (fun T540 _ X540 N540 e540 => ?_)
            obtain ⟨r540, hr540⟩ : ∃ z : Int32, (own_ch (nar .byte (nar .char r3).toInt8.toInt32)) = z := ⟨_, rfl⟩
            rw [hr540]
            refine g_aload C X540 at_388 390 rfl rfl ?_
            refine g_iload C X540 at_390 392 rfl ?_
            refine g_iconst C X540 at_392 393 (v := 1) rfl ?_
            refine g_iadd C X540 at_393 394 ?_
            rw [show (0 : Int32) + 1 = 1 from by decide]
            refine g_caload C X540 e540 f533 (by decide) (v := (.int (nar .char r3))) rfl at_394 395 ?_
            refine g_icmp_eq C X540 at_395 400 398 (fun hc395 => ?_) (fun hc395 => absurd (hr540.symm.trans (own_eq (own_pk hr3))) hc395)
            refine g_iload C X540 at_400 402 rfl ?_
            refine g_iconst C X540 at_402 403 (v := 2) rfl ?_
            refine g_icmp_le C X540 at_403 424 406 (fun hc403 => absurd hc403 (by decide)) (fun hc403 => ?_)
            refine g_aload C X540 at_406 408 rfl rfl ?_
            refine g_iconst C X540 at_408 409 (v := 2) rfl ?_
            refine g_callV0 C X540 (b_20 hw) q524_0 at_409 [(.int 2)] [] 0 (rm16_3_2 hw Z524 q524_0 q524_1 q524_2 q524_3 f531 f532 hcs hwf) N540 pd_9 e540 412 (fun T541 _ X541 N541 e541 => ?_)
            obtain ⟨r541, hr541⟩ : ∃ z : Int32, (own_ch (nar .byte (nar .char r4).toInt8.toInt32)) = z := ⟨_, rfl⟩
            rw [hr541]
            refine g_aload C X541 at_412 414 rfl rfl ?_
            refine g_iload C X541 at_414 416 rfl ?_
            refine g_iconst C X541 at_416 417 (v := 2) rfl ?_
            refine g_iadd C X541 at_417 418 ?_
            rw [show (0 : Int32) + 2 = 2 from by decide]
            refine g_caload C X541 e541 f533 (by decide) (v := (.int (nar .char r4))) rfl at_418 419 ?_
            refine g_icmp_eq C X541 at_419 424 422 (fun hc419 => ?_) (fun hc419 => absurd (hr541.symm.trans (own_eq (own_pk hr4))) hc419)
            refine g_iload C X541 at_424 426 rfl ?_
            refine g_iconst C X541 at_426 427 (v := 3) rfl ?_
            refine g_icmp_le C X541 at_427 448 430 (fun hc427 => ?_) (fun hc427 => absurd hc427 (by decide))
            refine g_iconst C X541 at_448 449 (v := 1) rfl ?_
            exact g_retNH C X541 K hS0 hk524 hEL H_524 R_524 (by simp) at_449 (by decide) (by decide) e541 ⟨rfl, N541⟩
        · subst hc228
          refine g_iconst C X496 at_231 232 (v := 1) rfl ?_
          refine g_istore C X496 at_232 234 (w := 1) rfl (ls' := #[iv p0, iv p1, iv p2, iv p3, iv p4, iv 4, iv r2, iv r3, iv r4, iv r5, rv b6, rv b369, rv b395, iv 1, uu, uu, uu]) rfl ?_
          refine g_iload C X496 at_234 236 rfl ?_
          refine g_if_le C X496 at_236 250 239 (fun hc236 => absurd hc236 (by decide)) (fun hc236 => ?_)
          refine g_iload C X496 at_239 241 rfl ?_
          refine g_callS0 C X496 (b_19 hw) at_241 [(.int r2)] [] 0 (rm15 hw Z404) N496 pd_10 e496 244 (fun T542 _ X542 N542 e542 => ?_)
          obtain ⟨r542, hr542⟩ : ∃ z : Int32, fSp r2 = z := ⟨_, rfl⟩
          rw [hr542]
          refine g_if_ne C X542 at_244 250 247 (fun hc244 => ?_) (fun hc244 => ?_)
          · refine g_iconst C X542 at_250 251 (v := 0) rfl ?_
            refine g_istore C X542 at_251 253 (w := 0) rfl (ls' := #[iv p0, iv p1, iv p2, iv p3, iv p4, iv 4, iv r2, iv r3, iv r4, iv r5, rv b6, rv b369, rv b395, iv 1, iv 0, uu, uu]) rfl ?_
            refine g_iload C X542 at_253 255 rfl ?_
            refine g_if_le C X542 at_255 269 258 (fun hc255 => absurd hc255 (by decide)) (fun hc255 => ?_)
            refine g_iload C X542 at_258 260 rfl ?_
            refine g_callS0 C X542 (b_19 hw) at_260 [(.int r2)] [] 0 (rm15 hw Z404) N542 pd_10 e542 263 (fun T543 _ X543 N543 e543 => ?_)
            rw [hr542]
            refine g_if_ne C X543 at_263 269 266 (fun hc263 => ?_) (fun hc263 => absurd hc263 hc244)
            refine g_iload C X543 at_269 271 rfl ?_
            refine g_iconst C X543 at_271 272 (v := 1) rfl ?_
            refine g_icmp_le C X543 at_272 286 275 (fun hc272 => absurd hc272 (by decide)) (fun hc272 => ?_)
            refine g_iload C X543 at_275 277 rfl ?_
            refine g_callS0 C X543 (b_19 hw) at_277 [(.int r3)] [] 0 (rm15 hw Z404) N543 pd_10 e543 280 (fun T544 _ X544 N544 e544 => ?_)
            rw [hr496]
            refine g_if_ne C X544 at_280 286 283 (fun hc280 => absurd hc280 (by decide)) (fun hc280 => ?_)
            refine g_iconst C X544 at_283 284 (v := 2) rfl ?_
            refine g_istore C X544 at_284 286 (w := 2) rfl (ls' := #[iv p0, iv p1, iv p2, iv p3, iv p4, iv 4, iv r2, iv r3, iv r4, iv r5, rv b6, rv b369, rv b395, iv 1, iv 2, uu, uu]) rfl ?_
            refine g_iload C X544 at_286 288 rfl ?_
            refine g_iconst C X544 at_288 289 (v := 2) rfl ?_
            refine g_icmp_le C X544 at_289 303 292 (fun hc289 => absurd hc289 (by decide)) (fun hc289 => ?_)
            refine g_iload C X544 at_292 294 rfl ?_
            refine g_callS0 C X544 (b_19 hw) at_294 [(.int r4)] [] 0 (rm15 hw Z404) N544 pd_10 e544 297 (fun T545 _ X545 N545 e545 => ?_)
            rw [hr414]
            refine g_if_ne C X545 at_297 303 300 (fun hc297 => absurd hc297 (by decide)) (fun hc297 => ?_)
            refine g_iconst C X545 at_300 301 (v := 3) rfl ?_
            refine g_istore C X545 at_301 303 (w := 3) rfl (ls' := #[iv p0, iv p1, iv p2, iv p3, iv p4, iv 4, iv r2, iv r3, iv r4, iv r5, rv b6, rv b369, rv b395, iv 1, iv 3, uu, uu]) rfl ?_
            refine g_iload C X545 at_303 305 rfl ?_
            refine g_iconst C X545 at_305 306 (v := 3) rfl ?_
            refine g_icmp_le C X545 at_306 320 309 (fun hc306 => absurd hc306 (by decide)) (fun hc306 => ?_)
            refine g_iload C X545 at_309 311 rfl ?_
            refine g_callS0 C X545 (b_19 hw) at_311 [(.int r5)] [] 0 (rm15 hw Z404) N545 pd_10 e545 314 (fun T546 _ X546 N546 e546 => ?_)
            rw [hr413]
            refine g_if_ne C X546 at_314 320 317 (fun hc314 => ?_) (fun hc314 => absurd hc314 hc194)
            refine g_iconst C X546 at_320 321 (v := 0) rfl ?_
            refine g_iload C X546 at_321 323 rfl ?_
            refine g_iload C X546 at_323 325 rfl ?_
            refine g_isub C X546 at_325 326 ?_
            rw [show (3 : Int32) - 1 = 2 from by decide]
            refine g_callS0 C X546 (b_16 hw) at_326 [(.int 0), (.int 2)] [] 0 (rm5 hw Z404) N546 pd_11 e546 329 (fun T547 _ X547 N547 e547 => ?_)
            rw [show fMax (0 : Int32) (2 : Int32) = (2 : Int32) from by decide]
            refine g_istore C X547 at_329 331 (w := 2) rfl (ls' := #[iv p0, iv p1, iv p2, iv p3, iv p4, iv 4, iv r2, iv r3, iv r4, iv r5, rv b6, rv b369, rv b395, iv 1, iv 3, iv 2, uu]) rfl ?_
            refine g_aload C X547 at_331 333 rfl rfl ?_
            refine g_callS C X547 (w_31 hw) (w_32 hw) (w_33 hw) (w_34 hw) at_333 [(.ref b395)] [] 0 (rm6_4_1_3 hw Z404 q404_0 q404_1 q404_2 q404_3 f408 f409 hcs hwf (own_s1 (own_pk hr2) hr542 hc244) (own_s0 (own_pk hr3) hr496 rfl) (own_s0 (own_pk hr4) hr414 rfl) (own_s1 (own_pk hr5) hr413 hc194)) pd_20 e547 336 (fun u548 T548 L548 X548 hQ548 => ?_)
            obtain ⟨o3548, o4548, kd3548, rfl, Nq548, szo3548, szo4548, Kq548, q548_0, q548_1, q548_2, q548_3⟩ := hQ548
            have N548 := Fr.app N547 Nq548
            have f555 := Sta.keepN f408 Kq548 all0
            have f556 := Sta.keepN f409 Kq548 all0
            have f557 := f410.keep Kq548 nin0
            have Z548 := Nat.le_trans Z404 Kq548.1
            have hk548 := Nat.le_trans hk404 Kq548.1
            have H_548 := CHv.keep Kq548 all0 H_404
            have R_548 := R_404.trans (CHr.keep Kq548 all0 H_404)
            refine ret1 ?_
            refine g_astore C X548 at_336 338 rfl (ls' := #[iv p0, iv p1, iv p2, iv p3, iv p4, iv 4, iv r2, iv r3, iv r4, iv r5, rv b6, rv b369, rv b395, iv 1, iv 3, iv 2, rv o3548]) rfl ?_
            refine g_aload C X548 at_338 340 rfl rfl ?_
            refine g_ifnullN C X548 at_340 343 ?_
            refine g_aload C X548 at_343 345 rfl rfl ?_
            refine g_callV0 C X548 (b_18 hw) q548_0 at_345 [] [] 0 (rm7_2 hw Z548 q548_0 q548_1 q548_2 q548_3 f555 hcs) N548 pd_6 rfl 348 (fun T562 _ X562 N562 e562 => ?_)
            refine g_iload C X562 at_348 350 rfl ?_
            refine g_icmp_eq C X562 at_350 355 353 (fun hc350 => ?_) (fun hc350 => absurd hc350 (by decide))
            refine g_iload C X562 at_355 357 rfl ?_
            refine g_if_le C X562 at_357 376 360 (fun hc357 => absurd hc357 (by decide)) (fun hc357 => ?_)
            refine g_aload C X562 at_360 362 rfl rfl ?_
            refine g_iconst C X562 at_362 363 (v := 0) rfl ?_
            refine g_callV0 C X562 (b_20 hw) q548_0 at_363 [(.int 0)] [] 0 (rm16_2_0 hw Z548 q548_0 q548_1 q548_2 q548_3 f555 f556 hcs hwf) N562 pd_9 e562 366 (fun T563 _ X563 N563 e563 => ?_)
            obtain ⟨r563, hr563⟩ : ∃ z : Int32, (own_ch (nar .byte (nar .char r3).toInt8.toInt32)) = z := ⟨_, rfl⟩
            rw [hr563]
            refine g_aload C X563 at_366 368 rfl rfl ?_
            refine g_iload C X563 at_368 370 rfl ?_
            refine g_caload C X563 e563 f557 (by decide) (v := (.int (nar .char r3))) rfl at_370 371 ?_
            refine g_icmp_eq C X563 at_371 376 374 (fun hc371 => ?_) (fun hc371 => absurd (hr563.symm.trans (own_eq (own_pk hr3))) hc371)
            refine g_iload C X563 at_376 378 rfl ?_
            refine g_iconst C X563 at_378 379 (v := 1) rfl ?_
            refine g_icmp_le C X563 at_379 400 382 (fun hc379 => absurd hc379 (by decide)) (fun hc379 => ?_)
            refine g_aload C X563 at_382 384 rfl rfl ?_
            refine g_iconst C X563 at_384 385 (v := 1) rfl ?_
            refine g_callV0 C X563 (b_20 hw) q548_0 at_385 [(.int 1)] [] 0 (rm16_2_1 hw Z548 q548_0 q548_1 q548_2 q548_3 f555 f556 hcs hwf) N563 pd_9 e563 388 (fun T564 _ X564 N564 e564 => ?_)
            obtain ⟨r564, hr564⟩ : ∃ z : Int32, (own_ch (nar .byte (nar .char r4).toInt8.toInt32)) = z := ⟨_, rfl⟩
            rw [hr564]
            refine g_aload C X564 at_388 390 rfl rfl ?_
            refine g_iload C X564 at_390 392 rfl ?_
            refine g_iconst C X564 at_392 393 (v := 1) rfl ?_
            refine g_iadd C X564 at_393 394 ?_
            rw [show (1 : Int32) + 1 = 2 from by decide]
            refine g_caload C X564 e564 f557 (by decide) (v := (.int (nar .char r4))) rfl at_394 395 ?_
            refine g_icmp_eq C X564 at_395 400 398 (fun hc395 => ?_) (fun hc395 => absurd (hr564.symm.trans (own_eq (own_pk hr4))) hc395)
            refine g_iload C X564 at_400 402 rfl ?_
            refine g_iconst C X564 at_402 403 (v := 2) rfl ?_
            refine g_icmp_le C X564 at_403 424 406 (fun hc403 => ?_) (fun hc403 => absurd hc403 (by decide))
            refine g_iload C X564 at_424 426 rfl ?_
            refine g_iconst C X564 at_426 427 (v := 3) rfl ?_
            refine g_icmp_le C X564 at_427 448 430 (fun hc427 => ?_) (fun hc427 => absurd hc427 (by decide))
            refine g_iconst C X564 at_448 449 (v := 1) rfl ?_
            exact g_retNH C X564 K hS0 hk548 hEL H_548 R_548 (by simp) at_449 (by decide) (by decide) e564 ⟨rfl, N564⟩
          · subst hc244
            refine g_iconst C X542 at_247 248 (v := 0) rfl ?_
            refine g_istore C X542 at_248 250 (w := 0) rfl (ls' := #[iv p0, iv p1, iv p2, iv p3, iv p4, iv 4, iv r2, iv r3, iv r4, iv r5, rv b6, rv b369, rv b395, iv 0, uu, uu, uu]) rfl ?_
            refine g_iconst C X542 at_250 251 (v := 0) rfl ?_
            refine g_istore C X542 at_251 253 (w := 0) rfl (ls' := #[iv p0, iv p1, iv p2, iv p3, iv p4, iv 4, iv r2, iv r3, iv r4, iv r5, rv b6, rv b369, rv b395, iv 0, iv 0, uu, uu]) rfl ?_
            refine g_iload C X542 at_253 255 rfl ?_
            refine g_if_le C X542 at_255 269 258 (fun hc255 => absurd hc255 (by decide)) (fun hc255 => ?_)
            refine g_iload C X542 at_258 260 rfl ?_
            refine g_callS0 C X542 (b_19 hw) at_260 [(.int r2)] [] 0 (rm15 hw Z404) N542 pd_10 e542 263 (fun T565 _ X565 N565 e565 => ?_)
            rw [hr542]
            refine g_if_ne C X565 at_263 269 266 (fun hc263 => absurd hc263 (by decide)) (fun hc263 => ?_)
            refine g_iconst C X565 at_266 267 (v := 1) rfl ?_
            refine g_istore C X565 at_267 269 (w := 1) rfl (ls' := #[iv p0, iv p1, iv p2, iv p3, iv p4, iv 4, iv r2, iv r3, iv r4, iv r5, rv b6, rv b369, rv b395, iv 0, iv 1, uu, uu]) rfl ?_
            refine g_iload C X565 at_269 271 rfl ?_
            refine g_iconst C X565 at_271 272 (v := 1) rfl ?_
            refine g_icmp_le C X565 at_272 286 275 (fun hc272 => absurd hc272 (by decide)) (fun hc272 => ?_)
            refine g_iload C X565 at_275 277 rfl ?_
            refine g_callS0 C X565 (b_19 hw) at_277 [(.int r3)] [] 0 (rm15 hw Z404) N565 pd_10 e565 280 (fun T566 _ X566 N566 e566 => ?_)
            rw [hr496]
            refine g_if_ne C X566 at_280 286 283 (fun hc280 => absurd hc280 (by decide)) (fun hc280 => ?_)
            refine g_iconst C X566 at_283 284 (v := 2) rfl ?_
            refine g_istore C X566 at_284 286 (w := 2) rfl (ls' := #[iv p0, iv p1, iv p2, iv p3, iv p4, iv 4, iv r2, iv r3, iv r4, iv r5, rv b6, rv b369, rv b395, iv 0, iv 2, uu, uu]) rfl ?_
            refine g_iload C X566 at_286 288 rfl ?_
            refine g_iconst C X566 at_288 289 (v := 2) rfl ?_
            refine g_icmp_le C X566 at_289 303 292 (fun hc289 => absurd hc289 (by decide)) (fun hc289 => ?_)
            refine g_iload C X566 at_292 294 rfl ?_
            refine g_callS0 C X566 (b_19 hw) at_294 [(.int r4)] [] 0 (rm15 hw Z404) N566 pd_10 e566 297 (fun T567 _ X567 N567 e567 => ?_)
            rw [hr414]
            refine g_if_ne C X567 at_297 303 300 (fun hc297 => absurd hc297 (by decide)) (fun hc297 => ?_)
            refine g_iconst C X567 at_300 301 (v := 3) rfl ?_
            refine g_istore C X567 at_301 303 (w := 3) rfl (ls' := #[iv p0, iv p1, iv p2, iv p3, iv p4, iv 4, iv r2, iv r3, iv r4, iv r5, rv b6, rv b369, rv b395, iv 0, iv 3, uu, uu]) rfl ?_
            refine g_iload C X567 at_303 305 rfl ?_
            refine g_iconst C X567 at_305 306 (v := 3) rfl ?_
            refine g_icmp_le C X567 at_306 320 309 (fun hc306 => absurd hc306 (by decide)) (fun hc306 => ?_)
            refine g_iload C X567 at_309 311 rfl ?_
            refine g_callS0 C X567 (b_19 hw) at_311 [(.int r5)] [] 0 (rm15 hw Z404) N567 pd_10 e567 314 (fun T568 _ X568 N568 e568 => ?_)
            rw [hr413]
            refine g_if_ne C X568 at_314 320 317 (fun hc314 => ?_) (fun hc314 => absurd hc314 hc194)
            refine g_iconst C X568 at_320 321 (v := 0) rfl ?_
            refine g_iload C X568 at_321 323 rfl ?_
            refine g_iload C X568 at_323 325 rfl ?_
            refine g_isub C X568 at_325 326 ?_
            rw [show (3 : Int32) - 0 = 3 from by decide]
            refine g_callS0 C X568 (b_16 hw) at_326 [(.int 0), (.int 3)] [] 0 (rm5 hw Z404) N568 pd_11 e568 329 (fun T569 _ X569 N569 e569 => ?_)
            rw [show fMax (0 : Int32) (3 : Int32) = (3 : Int32) from by decide]
            refine g_istore C X569 at_329 331 (w := 3) rfl (ls' := #[iv p0, iv p1, iv p2, iv p3, iv p4, iv 4, iv r2, iv r3, iv r4, iv r5, rv b6, rv b369, rv b395, iv 0, iv 3, iv 3, uu]) rfl ?_
            refine g_aload C X569 at_331 333 rfl rfl ?_
            refine g_callS C X569 (w_31 hw) (w_32 hw) (w_33 hw) (w_34 hw) at_333 [(.ref b395)] [] 0 (rm6_4_0_3 hw Z404 q404_0 q404_1 q404_2 q404_3 f408 f409 hcs hwf (own_s0 (own_pk hr2) hr542 rfl) (own_s0 (own_pk hr4) hr414 rfl) (own_s1 (own_pk hr5) hr413 hc194)) pd_20 e569 336 (fun u570 T570 L570 X570 hQ570 => ?_)
            obtain ⟨o3570, o4570, kd3570, rfl, Nq570, szo3570, szo4570, Kq570, q570_0, q570_1, q570_2, q570_3⟩ := hQ570
            have N570 := Fr.app N569 Nq570
            have f577 := Sta.keepN f408 Kq570 all0
            have f578 := Sta.keepN f409 Kq570 all0
            have f579 := f410.keep Kq570 nin0
            have Z570 := Nat.le_trans Z404 Kq570.1
            have hk570 := Nat.le_trans hk404 Kq570.1
            have H_570 := CHv.keep Kq570 all0 H_404
            have R_570 := R_404.trans (CHr.keep Kq570 all0 H_404)
            refine ret1 ?_
            refine g_astore C X570 at_336 338 rfl (ls' := #[iv p0, iv p1, iv p2, iv p3, iv p4, iv 4, iv r2, iv r3, iv r4, iv r5, rv b6, rv b369, rv b395, iv 0, iv 3, iv 3, rv o3570]) rfl ?_
            refine g_aload C X570 at_338 340 rfl rfl ?_
            refine g_ifnullN C X570 at_340 343 ?_
            refine g_aload C X570 at_343 345 rfl rfl ?_
            refine g_callV0 C X570 (b_18 hw) q570_0 at_345 [] [] 0 (rm7_3 hw Z570 q570_0 q570_1 q570_2 q570_3 f577 hcs) N570 pd_6 rfl 348 (fun T584 _ X584 N584 e584 => ?_)
            refine g_iload C X584 at_348 350 rfl ?_
            refine g_icmp_eq C X584 at_350 355 353 (fun hc350 => ?_) (fun hc350 => absurd hc350 (by decide))
            refine g_iload C X584 at_355 357 rfl ?_
            refine g_if_le C X584 at_357 376 360 (fun hc357 => absurd hc357 (by decide)) (fun hc357 => ?_)
            refine g_aload C X584 at_360 362 rfl rfl ?_
            refine g_iconst C X584 at_362 363 (v := 0) rfl ?_
            refine g_callV0 C X584 (b_20 hw) q570_0 at_363 [(.int 0)] [] 0 (rm16_3_0 hw Z570 q570_0 q570_1 q570_2 q570_3 f577 f578 hcs hwf) N584 pd_9 e584 366 (fun T585 _ X585 N585 e585 => ?_)
            obtain ⟨r585, hr585⟩ : ∃ z : Int32, (own_ch (nar .byte (nar .char r2).toInt8.toInt32)) = z := ⟨_, rfl⟩
            rw [hr585]
            refine g_aload C X585 at_366 368 rfl rfl ?_
            refine g_iload C X585 at_368 370 rfl ?_
            refine g_caload C X585 e585 f579 (by decide) (v := (.int (nar .char r2))) rfl at_370 371 ?_
            refine g_icmp_eq C X585 at_371 376 374 (fun hc371 => ?_) (fun hc371 => absurd (hr585.symm.trans (own_eq (own_pk hr2))) hc371)
            refine g_iload C X585 at_376 378 rfl ?_
            refine g_iconst C X585 at_378 379 (v := 1) rfl ?_
            refine g_icmp_le C X585 at_379 400 382 (fun hc379 => absurd hc379 (by decide)) (fun hc379 => ?_)
            refine g_aload C X585 at_382 384 rfl rfl ?_
            refine g_iconst C X585 at_384 385 (v := 1) rfl ?_
            refine g_callV0 C X585 (b_20 hw) q570_0 at_385 [(.int 1)] [] 0 (rm16_3_1 hw Z570 q570_0 q570_1 q570_2 q570_3 f577 f578 hcs hwf) N585 pd_9 e585 388 (fun T586 _ X586 N586 e586 => ?_)
            obtain ⟨r586, hr586⟩ : ∃ z : Int32, (own_ch (nar .byte (nar .char r3).toInt8.toInt32)) = z := ⟨_, rfl⟩
            rw [hr586]
            refine g_aload C X586 at_388 390 rfl rfl ?_
            refine g_iload C X586 at_390 392 rfl ?_
            refine g_iconst C X586 at_392 393 (v := 1) rfl ?_
            refine g_iadd C X586 at_393 394 ?_
            rw [show (0 : Int32) + 1 = 1 from by decide]
            refine g_caload C X586 e586 f579 (by decide) (v := (.int (nar .char r3))) rfl at_394 395 ?_
            refine g_icmp_eq C X586 at_395 400 398 (fun hc395 => ?_) (fun hc395 => absurd (hr586.symm.trans (own_eq (own_pk hr3))) hc395)
            refine g_iload C X586 at_400 402 rfl ?_
            refine g_iconst C X586 at_402 403 (v := 2) rfl ?_
            refine g_icmp_le C X586 at_403 424 406 (fun hc403 => absurd hc403 (by decide)) (fun hc403 => ?_)
            refine g_aload C X586 at_406 408 rfl rfl ?_
            refine g_iconst C X586 at_408 409 (v := 2) rfl ?_
            refine g_callV0 C X586 (b_20 hw) q570_0 at_409 [(.int 2)] [] 0 (rm16_3_2 hw Z570 q570_0 q570_1 q570_2 q570_3 f577 f578 hcs hwf) N586 pd_9 e586 412 (fun T587 _ X587 N587 e587 => ?_)
            obtain ⟨r587, hr587⟩ : ∃ z : Int32, (own_ch (nar .byte (nar .char r4).toInt8.toInt32)) = z := ⟨_, rfl⟩
            rw [hr587]
            refine g_aload C X587 at_412 414 rfl rfl ?_
            refine g_iload C X587 at_414 416 rfl ?_
            refine g_iconst C X587 at_416 417 (v := 2) rfl ?_
            refine g_iadd C X587 at_417 418 ?_
            rw [show (0 : Int32) + 2 = 2 from by decide]
            refine g_caload C X587 e587 f579 (by decide) (v := (.int (nar .char r4))) rfl at_418 419 ?_
            refine g_icmp_eq C X587 at_419 424 422 (fun hc419 => ?_) (fun hc419 => absurd (hr587.symm.trans (own_eq (own_pk hr4))) hc419)
            refine g_iload C X587 at_424 426 rfl ?_
            refine g_iconst C X587 at_426 427 (v := 3) rfl ?_
            refine g_icmp_le C X587 at_427 448 430 (fun hc427 => ?_) (fun hc427 => absurd hc427 (by decide))
            refine g_iconst C X587 at_448 449 (v := 1) rfl ?_
            exact g_retNH C X587 K hS0 hk570 hEL H_570 R_570 (by simp) at_449 (by decide) (by decide) e587 ⟨rfl, N587⟩
    · subst hc194
      refine g_iconst C X413 at_197 198 (v := 3) rfl ?_
      refine g_istore C X413 at_198 200 (w := 3) rfl (ls' := #[iv p0, iv p1, iv p2, iv p3, iv p4, iv 4, iv r2, iv r3, iv r4, iv r5, rv b6, rv b369, rv b395, iv 3, uu, uu, uu]) rfl ?_
      refine g_iload C X413 at_200 202 rfl ?_
      refine g_iconst C X413 at_202 203 (v := 2) rfl ?_
      refine g_icmp_le C X413 at_203 217 206 (fun hc203 => absurd hc203 (by decide)) (fun hc203 => ?_)
      refine g_iload C X413 at_206 208 rfl ?_
      refine g_callS0 C X413 (b_19 hw) at_208 [(.int r4)] [] 0 (rm15 hw Z404) N413 pd_10 e413 211 (fun T588 _ X588 N588 e588 => ?_)
      obtain ⟨r588, hr588⟩ : ∃ z : Int32, fSp r4 = z := ⟨_, rfl⟩
      rw [hr588]
      refine g_if_ne C X588 at_211 217 214 (fun hc211 => ?_) (fun hc211 => ?_)
      · refine g_iload C X588 at_217 219 rfl ?_
        refine g_iconst C X588 at_219 220 (v := 1) rfl ?_
        refine g_icmp_le C X588 at_220 234 223 (fun hc220 => absurd hc220 (by decide)) (fun hc220 => ?_)
        refine g_iload C X588 at_223 225 rfl ?_
        refine g_callS0 C X588 (b_19 hw) at_225 [(.int r3)] [] 0 (rm15 hw Z404) N588 pd_10 e588 228 (fun T589 _ X589 N589 e589 => ?_)
        obtain ⟨r589, hr589⟩ : ∃ z : Int32, fSp r3 = z := ⟨_, rfl⟩
        rw [hr589]
        refine g_if_ne C X589 at_228 234 231 (fun hc228 => ?_) (fun hc228 => ?_)
        · refine g_iload C X589 at_234 236 rfl ?_
          refine g_if_le C X589 at_236 250 239 (fun hc236 => absurd hc236 (by decide)) (fun hc236 => ?_)
          refine g_iload C X589 at_239 241 rfl ?_
          refine g_callS0 C X589 (b_19 hw) at_241 [(.int r2)] [] 0 (rm15 hw Z404) N589 pd_10 e589 244 (fun T590 _ X590 N590 e590 => ?_)
          obtain ⟨r590, hr590⟩ : ∃ z : Int32, fSp r2 = z := ⟨_, rfl⟩
          rw [hr590]
          refine g_if_ne C X590 at_244 250 247 (fun hc244 => ?_) (fun hc244 => ?_)
          · refine g_iconst C X590 at_250 251 (v := 0) rfl ?_
            refine g_istore C X590 at_251 253 (w := 0) rfl (ls' := #[iv p0, iv p1, iv p2, iv p3, iv p4, iv 4, iv r2, iv r3, iv r4, iv r5, rv b6, rv b369, rv b395, iv 3, iv 0, uu, uu]) rfl ?_
            refine g_iload C X590 at_253 255 rfl ?_
            refine g_if_le C X590 at_255 269 258 (fun hc255 => absurd hc255 (by decide)) (fun hc255 => ?_)
            refine g_iload C X590 at_258 260 rfl ?_
            refine g_callS0 C X590 (b_19 hw) at_260 [(.int r2)] [] 0 (rm15 hw Z404) N590 pd_10 e590 263 (fun T591 _ X591 N591 e591 => ?_)
            rw [hr590]
            refine g_if_ne C X591 at_263 269 266 (fun hc263 => ?_) (fun hc263 => absurd hc263 hc244)
            refine g_iload C X591 at_269 271 rfl ?_
            refine g_iconst C X591 at_271 272 (v := 1) rfl ?_
            refine g_icmp_le C X591 at_272 286 275 (fun hc272 => absurd hc272 (by decide)) (fun hc272 => ?_)
            refine g_iload C X591 at_275 277 rfl ?_
            refine g_callS0 C X591 (b_19 hw) at_277 [(.int r3)] [] 0 (rm15 hw Z404) N591 pd_10 e591 280 (fun T592 _ X592 N592 e592 => ?_)
            rw [hr589]
            refine g_if_ne C X592 at_280 286 283 (fun hc280 => ?_) (fun hc280 => absurd hc280 hc228)
            refine g_iload C X592 at_286 288 rfl ?_
            refine g_iconst C X592 at_288 289 (v := 2) rfl ?_
            refine g_icmp_le C X592 at_289 303 292 (fun hc289 => absurd hc289 (by decide)) (fun hc289 => ?_)
            refine g_iload C X592 at_292 294 rfl ?_
            refine g_callS0 C X592 (b_19 hw) at_294 [(.int r4)] [] 0 (rm15 hw Z404) N592 pd_10 e592 297 (fun T593 _ X593 N593 e593 => ?_)
            rw [hr588]
            refine g_if_ne C X593 at_297 303 300 (fun hc297 => ?_) (fun hc297 => absurd hc297 hc211)
            refine g_iload C X593 at_303 305 rfl ?_
            refine g_iconst C X593 at_305 306 (v := 3) rfl ?_
            refine g_icmp_le C X593 at_306 320 309 (fun hc306 => absurd hc306 (by decide)) (fun hc306 => ?_)
            refine g_iload C X593 at_309 311 rfl ?_
            refine g_callS0 C X593 (b_19 hw) at_311 [(.int r5)] [] 0 (rm15 hw Z404) N593 pd_10 e593 314 (fun T594 _ X594 N594 e594 => ?_)
            rw [hr413]
            refine g_if_ne C X594 at_314 320 317 (fun hc314 => absurd hc314 (by decide)) (fun hc314 => ?_)
            refine g_iconst C X594 at_317 318 (v := 4) rfl ?_
            refine g_istore C X594 at_318 320 (w := 4) rfl (ls' := #[iv p0, iv p1, iv p2, iv p3, iv p4, iv 4, iv r2, iv r3, iv r4, iv r5, rv b6, rv b369, rv b395, iv 3, iv 4, uu, uu]) rfl ?_
            refine g_iconst C X594 at_320 321 (v := 0) rfl ?_
            refine g_iload C X594 at_321 323 rfl ?_
            refine g_iload C X594 at_323 325 rfl ?_
            refine g_isub C X594 at_325 326 ?_
            rw [show (4 : Int32) - 3 = 1 from by decide]
            refine g_callS0 C X594 (b_16 hw) at_326 [(.int 0), (.int 1)] [] 0 (rm5 hw Z404) N594 pd_11 e594 329 (fun T595 _ X595 N595 e595 => ?_)
            rw [show fMax (0 : Int32) (1 : Int32) = (1 : Int32) from by decide]
            refine g_istore C X595 at_329 331 (w := 1) rfl (ls' := #[iv p0, iv p1, iv p2, iv p3, iv p4, iv 4, iv r2, iv r3, iv r4, iv r5, rv b6, rv b369, rv b395, iv 3, iv 4, iv 1, uu]) rfl ?_
            refine g_aload C X595 at_331 333 rfl rfl ?_
            refine g_callS C X595 (w_31 hw) (w_32 hw) (w_33 hw) (w_34 hw) at_333 [(.ref b395)] [] 0 (rm6_4_3_4 hw Z404 q404_0 q404_1 q404_2 q404_3 f408 f409 hcs hwf (own_s1 (own_pk hr2) hr590 hc244) (own_s1 (own_pk hr3) hr589 hc228) (own_s1 (own_pk hr4) hr588 hc211) (own_s0 (own_pk hr5) hr413 rfl)) pd_20 e595 336 (fun u596 T596 L596 X596 hQ596 => ?_)
            obtain ⟨o3596, o4596, kd3596, rfl, Nq596, szo3596, szo4596, Kq596, q596_0, q596_1, q596_2, q596_3⟩ := hQ596
            have N596 := Fr.app N595 Nq596
            have f603 := Sta.keepN f408 Kq596 all0
            have f604 := Sta.keepN f409 Kq596 all0
            have f605 := f410.keep Kq596 nin0
            have Z596 := Nat.le_trans Z404 Kq596.1
            have hk596 := Nat.le_trans hk404 Kq596.1
            have H_596 := CHv.keep Kq596 all0 H_404
            have R_596 := R_404.trans (CHr.keep Kq596 all0 H_404)
            refine ret1 ?_
            refine g_astore C X596 at_336 338 rfl (ls' := #[iv p0, iv p1, iv p2, iv p3, iv p4, iv 4, iv r2, iv r3, iv r4, iv r5, rv b6, rv b369, rv b395, iv 3, iv 4, iv 1, rv o3596]) rfl ?_
            refine g_aload C X596 at_338 340 rfl rfl ?_
            refine g_ifnullN C X596 at_340 343 ?_
            refine g_aload C X596 at_343 345 rfl rfl ?_
            refine g_callV0 C X596 (b_18 hw) q596_0 at_345 [] [] 0 (rm7_1 hw Z596 q596_0 q596_1 q596_2 q596_3 f603 hcs) N596 pd_6 rfl 348 (fun T610 _ X610 N610 e610 => ?_)
            refine g_iload C X610 at_348 350 rfl ?_
            refine g_icmp_eq C X610 at_350 355 353 (fun hc350 => ?_) (fun hc350 => absurd hc350 (by decide))
            refine g_iload C X610 at_355 357 rfl ?_
            refine g_if_le C X610 at_357 376 360 (fun hc357 => absurd hc357 (by decide)) (fun hc357 => ?_)
            refine g_aload C X610 at_360 362 rfl rfl ?_
            refine g_iconst C X610 at_362 363 (v := 0) rfl ?_
            refine g_callV0 C X610 (b_20 hw) q596_0 at_363 [(.int 0)] [] 0 (rm16_1_0 hw Z596 q596_0 q596_1 q596_2 q596_3 f603 f604 hcs hwf) N610 pd_9 e610 366 (fun T611 _ X611 N611 e611 => ?_)
            obtain ⟨r611, hr611⟩ : ∃ z : Int32, (own_ch (nar .byte (nar .char r5).toInt8.toInt32)) = z := ⟨_, rfl⟩
            rw [hr611]
            refine g_aload C X611 at_366 368 rfl rfl ?_
            refine g_iload C X611 at_368 370 rfl ?_
            refine g_caload C X611 e611 f605 (by decide) (v := (.int (nar .char r5))) rfl at_370 371 ?_
            refine g_icmp_eq C X611 at_371 376 374 (fun hc371 => ?_) (fun hc371 => absurd (hr611.symm.trans (own_eq (own_pk hr5))) hc371)
            refine g_iload C X611 at_376 378 rfl ?_
            refine g_iconst C X611 at_378 379 (v := 1) rfl ?_
            refine g_icmp_le C X611 at_379 400 382 (fun hc379 => ?_) (fun hc379 => absurd hc379 (by decide))
            refine g_iload C X611 at_400 402 rfl ?_
            refine g_iconst C X611 at_402 403 (v := 2) rfl ?_
            refine g_icmp_le C X611 at_403 424 406 (fun hc403 => ?_) (fun hc403 => absurd hc403 (by decide))
            refine g_iload C X611 at_424 426 rfl ?_
            refine g_iconst C X611 at_426 427 (v := 3) rfl ?_
            refine g_icmp_le C X611 at_427 448 430 (fun hc427 => ?_) (fun hc427 => absurd hc427 (by decide))
            refine g_iconst C X611 at_448 449 (v := 1) rfl ?_
            exact g_retNH C X611 K hS0 hk596 hEL H_596 R_596 (by simp) at_449 (by decide) (by decide) e611 ⟨rfl, N611⟩
          · subst hc244
            refine g_iconst C X590 at_247 248 (v := 0) rfl ?_
            refine g_istore C X590 at_248 250 (w := 0) rfl (ls' := #[iv p0, iv p1, iv p2, iv p3, iv p4, iv 4, iv r2, iv r3, iv r4, iv r5, rv b6, rv b369, rv b395, iv 0, uu, uu, uu]) rfl ?_
            refine g_iconst C X590 at_250 251 (v := 0) rfl ?_
            refine g_istore C X590 at_251 253 (w := 0) rfl (ls' := #[iv p0, iv p1, iv p2, iv p3, iv p4, iv 4, iv r2, iv r3, iv r4, iv r5, rv b6, rv b369, rv b395, iv 0, iv 0, uu, uu]) rfl ?_
            refine g_iload C X590 at_253 255 rfl ?_
            refine g_if_le C X590 at_255 269 258 (fun hc255 => absurd hc255 (by decide)) (fun hc255 => ?_)
            refine g_iload C X590 at_258 260 rfl ?_
            refine g_callS0 C X590 (b_19 hw) at_260 [(.int r2)] [] 0 (rm15 hw Z404) N590 pd_10 e590 263 (fun T612 _ X612 N612 e612 => ?_)
            rw [hr590]
            refine g_if_ne C X612 at_263 269 266 (fun hc263 => absurd hc263 (by decide)) (fun hc263 => ?_)
            refine g_iconst C X612 at_266 267 (v := 1) rfl ?_
            refine g_istore C X612 at_267 269 (w := 1) rfl (ls' := #[iv p0, iv p1, iv p2, iv p3, iv p4, iv 4, iv r2, iv r3, iv r4, iv r5, rv b6, rv b369, rv b395, iv 0, iv 1, uu, uu]) rfl ?_
            refine g_iload C X612 at_269 271 rfl ?_
            refine g_iconst C X612 at_271 272 (v := 1) rfl ?_
            refine g_icmp_le C X612 at_272 286 275 (fun hc272 => absurd hc272 (by decide)) (fun hc272 => ?_)
            refine g_iload C X612 at_275 277 rfl ?_
            refine g_callS0 C X612 (b_19 hw) at_277 [(.int r3)] [] 0 (rm15 hw Z404) N612 pd_10 e612 280 (fun T613 _ X613 N613 e613 => ?_)
            rw [hr589]
            refine g_if_ne C X613 at_280 286 283 (fun hc280 => ?_) (fun hc280 => absurd hc280 hc228)
            refine g_iload C X613 at_286 288 rfl ?_
            refine g_iconst C X613 at_288 289 (v := 2) rfl ?_
            refine g_icmp_le C X613 at_289 303 292 (fun hc289 => absurd hc289 (by decide)) (fun hc289 => ?_)
            refine g_iload C X613 at_292 294 rfl ?_
            refine g_callS0 C X613 (b_19 hw) at_294 [(.int r4)] [] 0 (rm15 hw Z404) N613 pd_10 e613 297 (fun T614 _ X614 N614 e614 => ?_)
            rw [hr588]
            refine g_if_ne C X614 at_297 303 300 (fun hc297 => ?_) (fun hc297 => absurd hc297 hc211)
            refine g_iload C X614 at_303 305 rfl ?_
            refine g_iconst C X614 at_305 306 (v := 3) rfl ?_
            refine g_icmp_le C X614 at_306 320 309 (fun hc306 => absurd hc306 (by decide)) (fun hc306 => ?_)
            refine g_iload C X614 at_309 311 rfl ?_
            refine g_callS0 C X614 (b_19 hw) at_311 [(.int r5)] [] 0 (rm15 hw Z404) N614 pd_10 e614 314 (fun T615 _ X615 N615 e615 => ?_)
            rw [hr413]
            refine g_if_ne C X615 at_314 320 317 (fun hc314 => absurd hc314 (by decide)) (fun hc314 => ?_)
            refine g_iconst C X615 at_317 318 (v := 4) rfl ?_
            refine g_istore C X615 at_318 320 (w := 4) rfl (ls' := #[iv p0, iv p1, iv p2, iv p3, iv p4, iv 4, iv r2, iv r3, iv r4, iv r5, rv b6, rv b369, rv b395, iv 0, iv 4, uu, uu]) rfl ?_
            refine g_iconst C X615 at_320 321 (v := 0) rfl ?_
            refine g_iload C X615 at_321 323 rfl ?_
            refine g_iload C X615 at_323 325 rfl ?_
            refine g_isub C X615 at_325 326 ?_
            rw [show (4 : Int32) - 0 = 4 from by decide]
            refine g_callS0 C X615 (b_16 hw) at_326 [(.int 0), (.int 4)] [] 0 (rm5 hw Z404) N615 pd_11 e615 329 (fun T616 _ X616 N616 e616 => ?_)
            rw [show fMax (0 : Int32) (4 : Int32) = (4 : Int32) from by decide]
            refine g_istore C X616 at_329 331 (w := 4) rfl (ls' := #[iv p0, iv p1, iv p2, iv p3, iv p4, iv 4, iv r2, iv r3, iv r4, iv r5, rv b6, rv b369, rv b395, iv 0, iv 4, iv 4, uu]) rfl ?_
            refine g_aload C X616 at_331 333 rfl rfl ?_
            refine g_callS0 C X616 (b_17 hw) at_333 [(.ref b395)] [] 0 (rm6_4_0_4 hw Z404 q404_0 q404_1 q404_2 q404_3 f408 f409 hcs hwf (own_s0 (own_pk hr2) hr590 rfl) (own_s0 (own_pk hr5) hr413 rfl)) N616 pd_20 e616 336 (fun T617 _ X617 N617 e617 => ?_)
            refine g_astore C X617 at_336 338 rfl (ls' := #[iv p0, iv p1, iv p2, iv p3, iv p4, iv 4, iv r2, iv r3, iv r4, iv r5, rv b6, rv b369, rv b395, iv 0, iv 4, iv 4, rv b395]) rfl ?_
            refine g_aload C X617 at_338 340 rfl rfl ?_
            refine g_ifnullN C X617 at_340 343 ?_
            refine g_aload C X617 at_343 345 rfl rfl ?_
            refine g_callV0 C X617 (b_18 hw) q404_0 at_345 [] [] 0 (rm7_4 hw Z404 q404_0 q404_1 q404_2 q404_3 f408 hcs) N617 pd_6 e617 348 (fun T618 _ X618 N618 e618 => ?_)
            refine g_iload C X618 at_348 350 rfl ?_
            refine g_icmp_eq C X618 at_350 355 353 (fun hc350 => ?_) (fun hc350 => absurd hc350 (by decide))
            refine g_iload C X618 at_355 357 rfl ?_
            refine g_if_le C X618 at_357 376 360 (fun hc357 => absurd hc357 (by decide)) (fun hc357 => ?_)
            refine g_aload C X618 at_360 362 rfl rfl ?_
            refine g_iconst C X618 at_362 363 (v := 0) rfl ?_
            refine g_callV0 C X618 (b_20 hw) q404_0 at_363 [(.int 0)] [] 0 (rm16_4_0 hw Z404 q404_0 q404_1 q404_2 q404_3 f408 f409 hcs hwf) N618 pd_9 e618 366 (fun T619 _ X619 N619 e619 => ?_)
            obtain ⟨r619, hr619⟩ : ∃ z : Int32, (own_ch (nar .byte (nar .char r2).toInt8.toInt32)) = z := ⟨_, rfl⟩
            rw [hr619]
            refine g_aload C X619 at_366 368 rfl rfl ?_
            refine g_iload C X619 at_368 370 rfl ?_
            refine g_caload C X619 e619 f410 (by decide) (v := (.int (nar .char r2))) rfl at_370 371 ?_
            refine g_icmp_eq C X619 at_371 376 374 (fun hc371 => ?_) (fun hc371 => absurd (hr619.symm.trans (own_eq (own_pk hr2))) hc371)
            refine g_iload C X619 at_376 378 rfl ?_
            refine g_iconst C X619 at_378 379 (v := 1) rfl ?_
            refine g_icmp_le C X619 at_379 400 382 (fun hc379 => absurd hc379 (by decide)) (fun hc379 => ?_)
            refine g_aload C X619 at_382 384 rfl rfl ?_
            refine g_iconst C X619 at_384 385 (v := 1) rfl ?_
            refine g_callV0 C X619 (b_20 hw) q404_0 at_385 [(.int 1)] [] 0 (rm16_4_1 hw Z404 q404_0 q404_1 q404_2 q404_3 f408 f409 hcs hwf) N619 pd_9 e619 388 (fun T620 _ X620 N620 e620 => ?_)
            obtain ⟨r620, hr620⟩ : ∃ z : Int32, (own_ch (nar .byte (nar .char r3).toInt8.toInt32)) = z := ⟨_, rfl⟩
            rw [hr620]
            refine g_aload C X620 at_388 390 rfl rfl ?_
            refine g_iload C X620 at_390 392 rfl ?_
            refine g_iconst C X620 at_392 393 (v := 1) rfl ?_
            refine g_iadd C X620 at_393 394 ?_
            rw [show (0 : Int32) + 1 = 1 from by decide]
            refine g_caload C X620 e620 f410 (by decide) (v := (.int (nar .char r3))) rfl at_394 395 ?_
            refine g_icmp_eq C X620 at_395 400 398 (fun hc395 => ?_) (fun hc395 => absurd (hr620.symm.trans (own_eq (own_pk hr3))) hc395)
            refine g_iload C X620 at_400 402 rfl ?_
            refine g_iconst C X620 at_402 403 (v := 2) rfl ?_
            refine g_icmp_le C X620 at_403 424 406 (fun hc403 => absurd hc403 (by decide)) (fun hc403 => ?_)
            refine g_aload C X620 at_406 408 rfl rfl ?_
            refine g_iconst C X620 at_408 409 (v := 2) rfl ?_
            refine g_callV0 C X620 (b_20 hw) q404_0 at_409 [(.int 2)] [] 0 (rm16_4_2 hw Z404 q404_0 q404_1 q404_2 q404_3 f408 f409 hcs hwf) N620 pd_9 e620 412 (fun T621 _ X621 N621 e621 => ?_)
            obtain ⟨r621, hr621⟩ : ∃ z : Int32, (own_ch (nar .byte (nar .char r4).toInt8.toInt32)) = z := ⟨_, rfl⟩
            rw [hr621]
            refine g_aload C X621 at_412 414 rfl rfl ?_
            refine g_iload C X621 at_414 416 rfl ?_
            refine g_iconst C X621 at_416 417 (v := 2) rfl ?_
            refine g_iadd C X621 at_417 418 ?_
            rw [show (0 : Int32) + 2 = 2 from by decide]
            refine g_caload C X621 e621 f410 (by decide) (v := (.int (nar .char r4))) rfl at_418 419 ?_
            refine g_icmp_eq C X621 at_419 424 422 (fun hc419 => ?_) (fun hc419 => absurd (hr621.symm.trans (own_eq (own_pk hr4))) hc419)
            refine g_iload C X621 at_424 426 rfl ?_
            refine g_iconst C X621 at_426 427 (v := 3) rfl ?_
            refine g_icmp_le C X621 at_427 448 430 (fun hc427 => absurd hc427 (by decide)) (fun hc427 => ?_)
            refine g_aload C X621 at_430 432 rfl rfl ?_
            refine g_iconst C X621 at_432 433 (v := 3) rfl ?_
            refine g_callV0 C X621 (b_20 hw) q404_0 at_433 [(.int 3)] [] 0 (rm16_4_3 hw Z404 q404_0 q404_1 q404_2 q404_3 f408 f409 hcs hwf) N621 pd_9 e621 436 (fun T622 _ X622 N622 e622 => ?_)
            obtain ⟨r622, hr622⟩ : ∃ z : Int32, (own_ch (nar .byte (nar .char r5).toInt8.toInt32)) = z := ⟨_, rfl⟩
            rw [hr622]
            refine g_aload C X622 at_436 438 rfl rfl ?_
            refine g_iload C X622 at_438 440 rfl ?_
            refine g_iconst C X622 at_440 441 (v := 3) rfl ?_
            refine g_iadd C X622 at_441 442 ?_
            rw [show (0 : Int32) + 3 = 3 from by decide]
            refine g_caload C X622 e622 f410 (by decide) (v := (.int (nar .char r5))) rfl at_442 443 ?_
            refine g_icmp_eq C X622 at_443 448 446 (fun hc443 => ?_) (fun hc443 => absurd (hr622.symm.trans (own_eq (own_pk hr5))) hc443)
            refine g_iconst C X622 at_448 449 (v := 1) rfl ?_
            exact g_retNH C X622 K hS0 hk404 hEL H_404 R_404 (by simp) at_449 (by decide) (by decide) e622 ⟨rfl, N622⟩
        · subst hc228
          refine g_iconst C X589 at_231 232 (v := 1) rfl ?_
          refine g_istore C X589 at_232 234 (w := 1) rfl (ls' := #[iv p0, iv p1, iv p2, iv p3, iv p4, iv 4, iv r2, iv r3, iv r4, iv r5, rv b6, rv b369, rv b395, iv 1, uu, uu, uu]) rfl ?_
          refine g_iload C X589 at_234 236 rfl ?_
          refine g_if_le C X589 at_236 250 239 (fun hc236 => absurd hc236 (by decide)) (fun hc236 => ?_)
          refine g_iload C X589 at_239 241 rfl ?_
          refine g_callS0 C X589 (b_19 hw) at_241 [(.int r2)] [] 0 (rm15 hw Z404) N589 pd_10 e589 244 (fun T623 _ X623 N623 e623 => ?_)
          obtain ⟨r623, hr623⟩ : ∃ z : Int32, fSp r2 = z := ⟨_, rfl⟩
          rw [hr623]
          refine g_if_ne C X623 at_244 250 247 (fun hc244 => ?_) (fun hc244 => ?_)
          · refine g_iconst C X623 at_250 251 (v := 0) rfl ?_
            refine g_istore C X623 at_251 253 (w := 0) rfl (ls' := #[iv p0, iv p1, iv p2, iv p3, iv p4, iv 4, iv r2, iv r3, iv r4, iv r5, rv b6, rv b369, rv b395, iv 1, iv 0, uu, uu]) rfl ?_
            refine g_iload C X623 at_253 255 rfl ?_
            refine g_if_le C X623 at_255 269 258 (fun hc255 => absurd hc255 (by decide)) (fun hc255 => ?_)
            refine g_iload C X623 at_258 260 rfl ?_
            refine g_callS0 C X623 (b_19 hw) at_260 [(.int r2)] [] 0 (rm15 hw Z404) N623 pd_10 e623 263 (fun T624 _ X624 N624 e624 => ?_)
            rw [hr623]
            refine g_if_ne C X624 at_263 269 266 (fun hc263 => ?_) (fun hc263 => absurd hc263 hc244)
            refine g_iload C X624 at_269 271 rfl ?_
            refine g_iconst C X624 at_271 272 (v := 1) rfl ?_
            refine g_icmp_le C X624 at_272 286 275 (fun hc272 => absurd hc272 (by decide)) (fun hc272 => ?_)
            refine g_iload C X624 at_275 277 rfl ?_
            refine g_callS0 C X624 (b_19 hw) at_277 [(.int r3)] [] 0 (rm15 hw Z404) N624 pd_10 e624 280 (fun T625 _ X625 N625 e625 => ?_)
            rw [hr589]
            refine g_if_ne C X625 at_280 286 283 (fun hc280 => absurd hc280 (by decide)) (fun hc280 => ?_)
            refine g_iconst C X625 at_283 284 (v := 2) rfl ?_
            refine g_istore C X625 at_284 286 (w := 2) rfl (ls' := #[iv p0, iv p1, iv p2, iv p3, iv p4, iv 4, iv r2, iv r3, iv r4, iv r5, rv b6, rv b369, rv b395, iv 1, iv 2, uu, uu]) rfl ?_
            refine g_iload C X625 at_286 288 rfl ?_
            refine g_iconst C X625 at_288 289 (v := 2) rfl ?_
            refine g_icmp_le C X625 at_289 303 292 (fun hc289 => absurd hc289 (by decide)) (fun hc289 => ?_)
            refine g_iload C X625 at_292 294 rfl ?_
            refine g_callS0 C X625 (b_19 hw) at_294 [(.int r4)] [] 0 (rm15 hw Z404) N625 pd_10 e625 297 (fun T626 _ X626 N626 e626 => ?_)
            rw [hr588]
            refine g_if_ne C X626 at_297 303 300 (fun hc297 => ?_) (fun hc297 => absurd hc297 hc211)
            refine g_iload C X626 at_303 305 rfl ?_
            refine g_iconst C X626 at_305 306 (v := 3) rfl ?_
            refine g_icmp_le C X626 at_306 320 309 (fun hc306 => absurd hc306 (by decide)) (fun hc306 => ?_)
            refine g_iload C X626 at_309 311 rfl ?_
            refine g_callS0 C X626 (b_19 hw) at_311 [(.int r5)] [] 0 (rm15 hw Z404) N626 pd_10 e626 314 (fun T627 _ X627 N627 e627 => ?_)
            rw [hr413]
            refine g_if_ne C X627 at_314 320 317 (fun hc314 => absurd hc314 (by decide)) (fun hc314 => ?_)
            refine g_iconst C X627 at_317 318 (v := 4) rfl ?_
            refine g_istore C X627 at_318 320 (w := 4) rfl (ls' := #[iv p0, iv p1, iv p2, iv p3, iv p4, iv 4, iv r2, iv r3, iv r4, iv r5, rv b6, rv b369, rv b395, iv 1, iv 4, uu, uu]) rfl ?_
            refine g_iconst C X627 at_320 321 (v := 0) rfl ?_
            refine g_iload C X627 at_321 323 rfl ?_
            refine g_iload C X627 at_323 325 rfl ?_
            refine g_isub C X627 at_325 326 ?_
            rw [show (4 : Int32) - 1 = 3 from by decide]
            refine g_callS0 C X627 (b_16 hw) at_326 [(.int 0), (.int 3)] [] 0 (rm5 hw Z404) N627 pd_11 e627 329 (fun T628 _ X628 N628 e628 => ?_)
            rw [show fMax (0 : Int32) (3 : Int32) = (3 : Int32) from by decide]
            refine g_istore C X628 at_329 331 (w := 3) rfl (ls' := #[iv p0, iv p1, iv p2, iv p3, iv p4, iv 4, iv r2, iv r3, iv r4, iv r5, rv b6, rv b369, rv b395, iv 1, iv 4, iv 3, uu]) rfl ?_
            refine g_aload C X628 at_331 333 rfl rfl ?_
            refine g_callS C X628 (w_31 hw) (w_32 hw) (w_33 hw) (w_34 hw) at_333 [(.ref b395)] [] 0 (rm6_4_1_4 hw Z404 q404_0 q404_1 q404_2 q404_3 f408 f409 hcs hwf (own_s1 (own_pk hr2) hr623 hc244) (own_s0 (own_pk hr3) hr589 rfl) (own_s0 (own_pk hr5) hr413 rfl)) pd_20 e628 336 (fun u629 T629 L629 X629 hQ629 => ?_)
            obtain ⟨o3629, o4629, kd3629, rfl, Nq629, szo3629, szo4629, Kq629, q629_0, q629_1, q629_2, q629_3⟩ := hQ629
            have N629 := Fr.app N628 Nq629
            have f636 := Sta.keepN f408 Kq629 all0
            have f637 := Sta.keepN f409 Kq629 all0
            have f638 := f410.keep Kq629 nin0
            have Z629 := Nat.le_trans Z404 Kq629.1
            have hk629 := Nat.le_trans hk404 Kq629.1
            have H_629 := CHv.keep Kq629 all0 H_404
            have R_629 := R_404.trans (CHr.keep Kq629 all0 H_404)
            refine ret1 ?_
            refine g_astore C X629 at_336 338 rfl (ls' := #[iv p0, iv p1, iv p2, iv p3, iv p4, iv 4, iv r2, iv r3, iv r4, iv r5, rv b6, rv b369, rv b395, iv 1, iv 4, iv 3, rv o3629]) rfl ?_
            refine g_aload C X629 at_338 340 rfl rfl ?_
            refine g_ifnullN C X629 at_340 343 ?_
            refine g_aload C X629 at_343 345 rfl rfl ?_
            refine g_callV0 C X629 (b_18 hw) q629_0 at_345 [] [] 0 (rm7_3 hw Z629 q629_0 q629_1 q629_2 q629_3 f636 hcs) N629 pd_6 rfl 348 (fun T643 _ X643 N643 e643 => ?_)
            refine g_iload C X643 at_348 350 rfl ?_
            refine g_icmp_eq C X643 at_350 355 353 (fun hc350 => ?_) (fun hc350 => absurd hc350 (by decide))
            refine g_iload C X643 at_355 357 rfl ?_
            refine g_if_le C X643 at_357 376 360 (fun hc357 => absurd hc357 (by decide)) (fun hc357 => ?_)
            refine g_aload C X643 at_360 362 rfl rfl ?_
            refine g_iconst C X643 at_362 363 (v := 0) rfl ?_
            refine g_callV0 C X643 (b_20 hw) q629_0 at_363 [(.int 0)] [] 0 (rm16_3_0 hw Z629 q629_0 q629_1 q629_2 q629_3 f636 f637 hcs hwf) N643 pd_9 e643 366 (fun T644 _ X644 N644 e644 => ?_)
            obtain ⟨r644, hr644⟩ : ∃ z : Int32, (own_ch (nar .byte (nar .char r3).toInt8.toInt32)) = z := ⟨_, rfl⟩
            rw [hr644]
            refine g_aload C X644 at_366 368 rfl rfl ?_
            refine g_iload C X644 at_368 370 rfl ?_
            refine g_caload C X644 e644 f638 (by decide) (v := (.int (nar .char r3))) rfl at_370 371 ?_
            refine g_icmp_eq C X644 at_371 376 374 (fun hc371 => ?_) (fun hc371 => absurd (hr644.symm.trans (own_eq (own_pk hr3))) hc371)
            refine g_iload C X644 at_376 378 rfl ?_
            refine g_iconst C X644 at_378 379 (v := 1) rfl ?_
            refine g_icmp_le C X644 at_379 400 382 (fun hc379 => absurd hc379 (by decide)) (fun hc379 => ?_)
            refine g_aload C X644 at_382 384 rfl rfl ?_
            refine g_iconst C X644 at_384 385 (v := 1) rfl ?_
            refine g_callV0 C X644 (b_20 hw) q629_0 at_385 [(.int 1)] [] 0 (rm16_3_1 hw Z629 q629_0 q629_1 q629_2 q629_3 f636 f637 hcs hwf) N644 pd_9 e644 388 (fun T645 _ X645 N645 e645 => ?_)
            obtain ⟨r645, hr645⟩ : ∃ z : Int32, (own_ch (nar .byte (nar .char r4).toInt8.toInt32)) = z := ⟨_, rfl⟩
            rw [hr645]
            refine g_aload C X645 at_388 390 rfl rfl ?_
            refine g_iload C X645 at_390 392 rfl ?_
            refine g_iconst C X645 at_392 393 (v := 1) rfl ?_
            refine g_iadd C X645 at_393 394 ?_
            rw [show (1 : Int32) + 1 = 2 from by decide]
            refine g_caload C X645 e645 f638 (by decide) (v := (.int (nar .char r4))) rfl at_394 395 ?_
            refine g_icmp_eq C X645 at_395 400 398 (fun hc395 => ?_) (fun hc395 => absurd (hr645.symm.trans (own_eq (own_pk hr4))) hc395)
            refine g_iload C X645 at_400 402 rfl ?_
            refine g_iconst C X645 at_402 403 (v := 2) rfl ?_
            refine g_icmp_le C X645 at_403 424 406 (fun hc403 => absurd hc403 (by decide)) (fun hc403 => ?_)
            refine g_aload C X645 at_406 408 rfl rfl ?_
            refine g_iconst C X645 at_408 409 (v := 2) rfl ?_
            refine g_callV0 C X645 (b_20 hw) q629_0 at_409 [(.int 2)] [] 0 (rm16_3_2 hw Z629 q629_0 q629_1 q629_2 q629_3 f636 f637 hcs hwf) N645 pd_9 e645 412 (fun T646 _ X646 N646 e646 => ?_)
            obtain ⟨r646, hr646⟩ : ∃ z : Int32, (own_ch (nar .byte (nar .char r5).toInt8.toInt32)) = z := ⟨_, rfl⟩
            rw [hr646]
            refine g_aload C X646 at_412 414 rfl rfl ?_
            refine g_iload C X646 at_414 416 rfl ?_
            refine g_iconst C X646 at_416 417 (v := 2) rfl ?_
            refine g_iadd C X646 at_417 418 ?_
            rw [show (1 : Int32) + 2 = 3 from by decide]
            refine g_caload C X646 e646 f638 (by decide) (v := (.int (nar .char r5))) rfl at_418 419 ?_
            refine g_icmp_eq C X646 at_419 424 422 (fun hc419 => ?_) (fun hc419 => absurd (hr646.symm.trans (own_eq (own_pk hr5))) hc419)
            refine g_iload C X646 at_424 426 rfl ?_
            refine g_iconst C X646 at_426 427 (v := 3) rfl ?_
            refine g_icmp_le C X646 at_427 448 430 (fun hc427 => ?_) (fun hc427 => absurd hc427 (by decide))
            refine g_iconst C X646 at_448 449 (v := 1) rfl ?_
            exact g_retNH C X646 K hS0 hk629 hEL H_629 R_629 (by simp) at_449 (by decide) (by decide) e646 ⟨rfl, N646⟩
          · subst hc244
            refine g_iconst C X623 at_247 248 (v := 0) rfl ?_
            refine g_istore C X623 at_248 250 (w := 0) rfl (ls' := #[iv p0, iv p1, iv p2, iv p3, iv p4, iv 4, iv r2, iv r3, iv r4, iv r5, rv b6, rv b369, rv b395, iv 0, uu, uu, uu]) rfl ?_
            refine g_iconst C X623 at_250 251 (v := 0) rfl ?_
            refine g_istore C X623 at_251 253 (w := 0) rfl (ls' := #[iv p0, iv p1, iv p2, iv p3, iv p4, iv 4, iv r2, iv r3, iv r4, iv r5, rv b6, rv b369, rv b395, iv 0, iv 0, uu, uu]) rfl ?_
            refine g_iload C X623 at_253 255 rfl ?_
            refine g_if_le C X623 at_255 269 258 (fun hc255 => absurd hc255 (by decide)) (fun hc255 => ?_)
            refine g_iload C X623 at_258 260 rfl ?_
            refine g_callS0 C X623 (b_19 hw) at_260 [(.int r2)] [] 0 (rm15 hw Z404) N623 pd_10 e623 263 (fun T647 _ X647 N647 e647 => ?_)
            rw [hr623]
            refine g_if_ne C X647 at_263 269 266 (fun hc263 => absurd hc263 (by decide)) (fun hc263 => ?_)
            refine g_iconst C X647 at_266 267 (v := 1) rfl ?_
            refine g_istore C X647 at_267 269 (w := 1) rfl (ls' := #[iv p0, iv p1, iv p2, iv p3, iv p4, iv 4, iv r2, iv r3, iv r4, iv r5, rv b6, rv b369, rv b395, iv 0, iv 1, uu, uu]) rfl ?_
            refine g_iload C X647 at_269 271 rfl ?_
            refine g_iconst C X647 at_271 272 (v := 1) rfl ?_
            refine g_icmp_le C X647 at_272 286 275 (fun hc272 => absurd hc272 (by decide)) (fun hc272 => ?_)
            refine g_iload C X647 at_275 277 rfl ?_
            refine g_callS0 C X647 (b_19 hw) at_277 [(.int r3)] [] 0 (rm15 hw Z404) N647 pd_10 e647 280 (fun T648 _ X648 N648 e648 => ?_)
            rw [hr589]
            refine g_if_ne C X648 at_280 286 283 (fun hc280 => absurd hc280 (by decide)) (fun hc280 => ?_)
            refine g_iconst C X648 at_283 284 (v := 2) rfl ?_
            refine g_istore C X648 at_284 286 (w := 2) rfl (ls' := #[iv p0, iv p1, iv p2, iv p3, iv p4, iv 4, iv r2, iv r3, iv r4, iv r5, rv b6, rv b369, rv b395, iv 0, iv 2, uu, uu]) rfl ?_
            refine g_iload C X648 at_286 288 rfl ?_
            refine g_iconst C X648 at_288 289 (v := 2) rfl ?_
            refine g_icmp_le C X648 at_289 303 292 (fun hc289 => absurd hc289 (by decide)) (fun hc289 => ?_)
            refine g_iload C X648 at_292 294 rfl ?_
            refine g_callS0 C X648 (b_19 hw) at_294 [(.int r4)] [] 0 (rm15 hw Z404) N648 pd_10 e648 297 (fun T649 _ X649 N649 e649 => ?_)
            rw [hr588]
            refine g_if_ne C X649 at_297 303 300 (fun hc297 => ?_) (fun hc297 => absurd hc297 hc211)
            refine g_iload C X649 at_303 305 rfl ?_
            refine g_iconst C X649 at_305 306 (v := 3) rfl ?_
            refine g_icmp_le C X649 at_306 320 309 (fun hc306 => absurd hc306 (by decide)) (fun hc306 => ?_)
            refine g_iload C X649 at_309 311 rfl ?_
            refine g_callS0 C X649 (b_19 hw) at_311 [(.int r5)] [] 0 (rm15 hw Z404) N649 pd_10 e649 314 (fun T650 _ X650 N650 e650 => ?_)
            rw [hr413]
            refine g_if_ne C X650 at_314 320 317 (fun hc314 => absurd hc314 (by decide)) (fun hc314 => ?_)
            refine g_iconst C X650 at_317 318 (v := 4) rfl ?_
            refine g_istore C X650 at_318 320 (w := 4) rfl (ls' := #[iv p0, iv p1, iv p2, iv p3, iv p4, iv 4, iv r2, iv r3, iv r4, iv r5, rv b6, rv b369, rv b395, iv 0, iv 4, uu, uu]) rfl ?_
            refine g_iconst C X650 at_320 321 (v := 0) rfl ?_
            refine g_iload C X650 at_321 323 rfl ?_
            refine g_iload C X650 at_323 325 rfl ?_
            refine g_isub C X650 at_325 326 ?_
            rw [show (4 : Int32) - 0 = 4 from by decide]
            refine g_callS0 C X650 (b_16 hw) at_326 [(.int 0), (.int 4)] [] 0 (rm5 hw Z404) N650 pd_11 e650 329 (fun T651 _ X651 N651 e651 => ?_)
            rw [show fMax (0 : Int32) (4 : Int32) = (4 : Int32) from by decide]
            refine g_istore C X651 at_329 331 (w := 4) rfl (ls' := #[iv p0, iv p1, iv p2, iv p3, iv p4, iv 4, iv r2, iv r3, iv r4, iv r5, rv b6, rv b369, rv b395, iv 0, iv 4, iv 4, uu]) rfl ?_
            refine g_aload C X651 at_331 333 rfl rfl ?_
            refine g_callS0 C X651 (b_17 hw) at_333 [(.ref b395)] [] 0 (rm6_4_0_4 hw Z404 q404_0 q404_1 q404_2 q404_3 f408 f409 hcs hwf (own_s0 (own_pk hr2) hr623 rfl) (own_s0 (own_pk hr5) hr413 rfl)) N651 pd_20 e651 336 (fun T652 _ X652 N652 e652 => ?_)
            refine g_astore C X652 at_336 338 rfl (ls' := #[iv p0, iv p1, iv p2, iv p3, iv p4, iv 4, iv r2, iv r3, iv r4, iv r5, rv b6, rv b369, rv b395, iv 0, iv 4, iv 4, rv b395]) rfl ?_
            refine g_aload C X652 at_338 340 rfl rfl ?_
            refine g_ifnullN C X652 at_340 343 ?_
            refine g_aload C X652 at_343 345 rfl rfl ?_
            refine g_callV0 C X652 (b_18 hw) q404_0 at_345 [] [] 0 (rm7_4 hw Z404 q404_0 q404_1 q404_2 q404_3 f408 hcs) N652 pd_6 e652 348 (fun T653 _ X653 N653 e653 => ?_)
            refine g_iload C X653 at_348 350 rfl ?_
            refine g_icmp_eq C X653 at_350 355 353 (fun hc350 => ?_) (fun hc350 => absurd hc350 (by decide))
            refine g_iload C X653 at_355 357 rfl ?_
            refine g_if_le C X653 at_357 376 360 (fun hc357 => absurd hc357 (by decide)) (fun hc357 => ?_)
            refine g_aload C X653 at_360 362 rfl rfl ?_
            refine g_iconst C X653 at_362 363 (v := 0) rfl ?_
            refine g_callV0 C X653 (b_20 hw) q404_0 at_363 [(.int 0)] [] 0 (rm16_4_0 hw Z404 q404_0 q404_1 q404_2 q404_3 f408 f409 hcs hwf) N653 pd_9 e653 366 (fun T654 _ X654 N654 e654 => ?_)
            obtain ⟨r654, hr654⟩ : ∃ z : Int32, (own_ch (nar .byte (nar .char r2).toInt8.toInt32)) = z := ⟨_, rfl⟩
            rw [hr654]
            refine g_aload C X654 at_366 368 rfl rfl ?_
            refine g_iload C X654 at_368 370 rfl ?_
            refine g_caload C X654 e654 f410 (by decide) (v := (.int (nar .char r2))) rfl at_370 371 ?_
            refine g_icmp_eq C X654 at_371 376 374 (fun hc371 => ?_) (fun hc371 => absurd (hr654.symm.trans (own_eq (own_pk hr2))) hc371)
            refine g_iload C X654 at_376 378 rfl ?_
            refine g_iconst C X654 at_378 379 (v := 1) rfl ?_
            refine g_icmp_le C X654 at_379 400 382 (fun hc379 => absurd hc379 (by decide)) (fun hc379 => ?_)
            refine g_aload C X654 at_382 384 rfl rfl ?_
            refine g_iconst C X654 at_384 385 (v := 1) rfl ?_
            refine g_callV0 C X654 (b_20 hw) q404_0 at_385 [(.int 1)] [] 0 (rm16_4_1 hw Z404 q404_0 q404_1 q404_2 q404_3 f408 f409 hcs hwf) N654 pd_9 e654 388 (fun T655 _ X655 N655 e655 => ?_)
            obtain ⟨r655, hr655⟩ : ∃ z : Int32, (own_ch (nar .byte (nar .char r3).toInt8.toInt32)) = z := ⟨_, rfl⟩
            rw [hr655]
            refine g_aload C X655 at_388 390 rfl rfl ?_
            refine g_iload C X655 at_390 392 rfl ?_
            refine g_iconst C X655 at_392 393 (v := 1) rfl ?_
            refine g_iadd C X655 at_393 394 ?_
            rw [show (0 : Int32) + 1 = 1 from by decide]
            refine g_caload C X655 e655 f410 (by decide) (v := (.int (nar .char r3))) rfl at_394 395 ?_
            refine g_icmp_eq C X655 at_395 400 398 (fun hc395 => ?_) (fun hc395 => absurd (hr655.symm.trans (own_eq (own_pk hr3))) hc395)
            refine g_iload C X655 at_400 402 rfl ?_
            refine g_iconst C X655 at_402 403 (v := 2) rfl ?_
            refine g_icmp_le C X655 at_403 424 406 (fun hc403 => absurd hc403 (by decide)) (fun hc403 => ?_)
            refine g_aload C X655 at_406 408 rfl rfl ?_
            refine g_iconst C X655 at_408 409 (v := 2) rfl ?_
            refine g_callV0 C X655 (b_20 hw) q404_0 at_409 [(.int 2)] [] 0 (rm16_4_2 hw Z404 q404_0 q404_1 q404_2 q404_3 f408 f409 hcs hwf) N655 pd_9 e655 412 (fun T656 _ X656 N656 e656 => ?_)
            obtain ⟨r656, hr656⟩ : ∃ z : Int32, (own_ch (nar .byte (nar .char r4).toInt8.toInt32)) = z := ⟨_, rfl⟩
            rw [hr656]
            refine g_aload C X656 at_412 414 rfl rfl ?_
            refine g_iload C X656 at_414 416 rfl ?_
            refine g_iconst C X656 at_416 417 (v := 2) rfl ?_
            refine g_iadd C X656 at_417 418 ?_
            rw [show (0 : Int32) + 2 = 2 from by decide]
            refine g_caload C X656 e656 f410 (by decide) (v := (.int (nar .char r4))) rfl at_418 419 ?_
            refine g_icmp_eq C X656 at_419 424 422 (fun hc419 => ?_) (fun hc419 => absurd (hr656.symm.trans (own_eq (own_pk hr4))) hc419)
            refine g_iload C X656 at_424 426 rfl ?_
            refine g_iconst C X656 at_426 427 (v := 3) rfl ?_
            refine g_icmp_le C X656 at_427 448 430 (fun hc427 => absurd hc427 (by decide)) (fun hc427 => ?_)
            refine g_aload C X656 at_430 432 rfl rfl ?_
            refine g_iconst C X656 at_432 433 (v := 3) rfl ?_
            refine g_callV0 C X656 (b_20 hw) q404_0 at_433 [(.int 3)] [] 0 (rm16_4_3 hw Z404 q404_0 q404_1 q404_2 q404_3 f408 f409 hcs hwf) N656 pd_9 e656 436 (fun T657 _ X657 N657 e657 => ?_)
            obtain ⟨r657, hr657⟩ : ∃ z : Int32, (own_ch (nar .byte (nar .char r5).toInt8.toInt32)) = z := ⟨_, rfl⟩
            rw [hr657]
            refine g_aload C X657 at_436 438 rfl rfl ?_
            refine g_iload C X657 at_438 440 rfl ?_
            refine g_iconst C X657 at_440 441 (v := 3) rfl ?_
            refine g_iadd C X657 at_441 442 ?_
            rw [show (0 : Int32) + 3 = 3 from by decide]
            refine g_caload C X657 e657 f410 (by decide) (v := (.int (nar .char r5))) rfl at_442 443 ?_
            refine g_icmp_eq C X657 at_443 448 446 (fun hc443 => ?_) (fun hc443 => absurd (hr657.symm.trans (own_eq (own_pk hr5))) hc443)
            refine g_iconst C X657 at_448 449 (v := 1) rfl ?_
            exact g_retNH C X657 K hS0 hk404 hEL H_404 R_404 (by simp) at_449 (by decide) (by decide) e657 ⟨rfl, N657⟩
      · subst hc211
        refine g_iconst C X588 at_214 215 (v := 2) rfl ?_
        refine g_istore C X588 at_215 217 (w := 2) rfl (ls' := #[iv p0, iv p1, iv p2, iv p3, iv p4, iv 4, iv r2, iv r3, iv r4, iv r5, rv b6, rv b369, rv b395, iv 2, uu, uu, uu]) rfl ?_
        refine g_iload C X588 at_217 219 rfl ?_
        refine g_iconst C X588 at_219 220 (v := 1) rfl ?_
        refine g_icmp_le C X588 at_220 234 223 (fun hc220 => absurd hc220 (by decide)) (fun hc220 => ?_)
        refine g_iload C X588 at_223 225 rfl ?_
        refine g_callS0 C X588 (b_19 hw) at_225 [(.int r3)] [] 0 (rm15 hw Z404) N588 pd_10 e588 228 (fun T658 _ X658 N658 e658 => ?_)
        obtain ⟨r658, hr658⟩ : ∃ z : Int32, fSp r3 = z := ⟨_, rfl⟩
        rw [hr658]
        refine g_if_ne C X658 at_228 234 231 (fun hc228 => ?_) (fun hc228 => ?_)
        · refine g_iload C X658 at_234 236 rfl ?_
          refine g_if_le C X658 at_236 250 239 (fun hc236 => absurd hc236 (by decide)) (fun hc236 => ?_)
          refine g_iload C X658 at_239 241 rfl ?_
          refine g_callS0 C X658 (b_19 hw) at_241 [(.int r2)] [] 0 (rm15 hw Z404) N658 pd_10 e658 244 (fun T659 _ X659 N659 e659 => ?_)
          obtain ⟨r659, hr659⟩ : ∃ z : Int32, fSp r2 = z := ⟨_, rfl⟩
          rw [hr659]
          refine g_if_ne C X659 at_244 250 247 (fun hc244 => ?_) (fun hc244 => ?_)
          · refine g_iconst C X659 at_250 251 (v := 0) rfl ?_
            refine g_istore C X659 at_251 253 (w := 0) rfl (ls' := #[iv p0, iv p1, iv p2, iv p3, iv p4, iv 4, iv r2, iv r3, iv r4, iv r5, rv b6, rv b369, rv b395, iv 2, iv 0, uu, uu]) rfl ?_
            refine g_iload C X659 at_253 255 rfl ?_
            refine g_if_le C X659 at_255 269 258 (fun hc255 => absurd hc255 (by decide)) (fun hc255 => ?_)
            refine g_iload C X659 at_258 260 rfl ?_
            refine g_callS0 C X659 (b_19 hw) at_260 [(.int r2)] [] 0 (rm15 hw Z404) N659 pd_10 e659 263 (fun T660 _ X660 N660 e660 => ?_)
            rw [hr659]
            refine g_if_ne C X660 at_263 269 266 (fun hc263 => ?_) (fun hc263 => absurd hc263 hc244)
            refine g_iload C X660 at_269 271 rfl ?_
            refine g_iconst C X660 at_271 272 (v := 1) rfl ?_
            refine g_icmp_le C X660 at_272 286 275 (fun hc272 => absurd hc272 (by decide)) (fun hc272 => ?_)
            refine g_iload C X660 at_275 277 rfl ?_
            refine g_callS0 C X660 (b_19 hw) at_277 [(.int r3)] [] 0 (rm15 hw Z404) N660 pd_10 e660 280 (fun T661 _ X661 N661 e661 => ?_)
            rw [hr658]
            refine g_if_ne C X661 at_280 286 283 (fun hc280 => ?_) (fun hc280 => absurd hc280 hc228)
            refine g_iload C X661 at_286 288 rfl ?_
            refine g_iconst C X661 at_288 289 (v := 2) rfl ?_
            refine g_icmp_le C X661 at_289 303 292 (fun hc289 => absurd hc289 (by decide)) (fun hc289 => ?_)
            refine g_iload C X661 at_292 294 rfl ?_
            refine g_callS0 C X661 (b_19 hw) at_294 [(.int r4)] [] 0 (rm15 hw Z404) N661 pd_10 e661 297 (fun T662 _ X662 N662 e662 => ?_)
            rw [hr588]
            refine g_if_ne C X662 at_297 303 300 (fun hc297 => absurd hc297 (by decide)) (fun hc297 => ?_)
            refine g_iconst C X662 at_300 301 (v := 3) rfl ?_
            refine g_istore C X662 at_301 303 (w := 3) rfl (ls' := #[iv p0, iv p1, iv p2, iv p3, iv p4, iv 4, iv r2, iv r3, iv r4, iv r5, rv b6, rv b369, rv b395, iv 2, iv 3, uu, uu]) rfl ?_
            refine g_iload C X662 at_303 305 rfl ?_
            refine g_iconst C X662 at_305 306 (v := 3) rfl ?_
            refine g_icmp_le C X662 at_306 320 309 (fun hc306 => absurd hc306 (by decide)) (fun hc306 => ?_)
            refine g_iload C X662 at_309 311 rfl ?_
            refine g_callS0 C X662 (b_19 hw) at_311 [(.int r5)] [] 0 (rm15 hw Z404) N662 pd_10 e662 314 (fun T663 _ X663 N663 e663 => ?_)
            rw [hr413]
            refine g_if_ne C X663 at_314 320 317 (fun hc314 => absurd hc314 (by decide)) (fun hc314 => ?_)
            refine g_iconst C X663 at_317 318 (v := 4) rfl ?_
            refine g_istore C X663 at_318 320 (w := 4) rfl (ls' := #[iv p0, iv p1, iv p2, iv p3, iv p4, iv 4, iv r2, iv r3, iv r4, iv r5, rv b6, rv b369, rv b395, iv 2, iv 4, uu, uu]) rfl ?_
            refine g_iconst C X663 at_320 321 (v := 0) rfl ?_
            refine g_iload C X663 at_321 323 rfl ?_
            refine g_iload C X663 at_323 325 rfl ?_
            refine g_isub C X663 at_325 326 ?_
            rw [show (4 : Int32) - 2 = 2 from by decide]
            refine g_callS0 C X663 (b_16 hw) at_326 [(.int 0), (.int 2)] [] 0 (rm5 hw Z404) N663 pd_11 e663 329 (fun T664 _ X664 N664 e664 => ?_)
            rw [show fMax (0 : Int32) (2 : Int32) = (2 : Int32) from by decide]
            refine g_istore C X664 at_329 331 (w := 2) rfl (ls' := #[iv p0, iv p1, iv p2, iv p3, iv p4, iv 4, iv r2, iv r3, iv r4, iv r5, rv b6, rv b369, rv b395, iv 2, iv 4, iv 2, uu]) rfl ?_
            refine g_aload C X664 at_331 333 rfl rfl ?_
            refine g_callS C X664 (w_31 hw) (w_32 hw) (w_33 hw) (w_34 hw) at_333 [(.ref b395)] [] 0 (rm6_4_2_4 hw Z404 q404_0 q404_1 q404_2 q404_3 f408 f409 hcs hwf (own_s1 (own_pk hr2) hr659 hc244) (own_s1 (own_pk hr3) hr658 hc228) (own_s0 (own_pk hr4) hr588 rfl) (own_s0 (own_pk hr5) hr413 rfl)) pd_20 e664 336 (fun u665 T665 L665 X665 hQ665 => ?_)
            obtain ⟨o3665, o4665, kd3665, rfl, Nq665, szo3665, szo4665, Kq665, q665_0, q665_1, q665_2, q665_3⟩ := hQ665
            have N665 := Fr.app N664 Nq665
            have f672 := Sta.keepN f408 Kq665 all0
            have f673 := Sta.keepN f409 Kq665 all0
            have f674 := f410.keep Kq665 nin0
            have Z665 := Nat.le_trans Z404 Kq665.1
            have hk665 := Nat.le_trans hk404 Kq665.1
            have H_665 := CHv.keep Kq665 all0 H_404
            have R_665 := R_404.trans (CHr.keep Kq665 all0 H_404)
            refine ret1 ?_
            refine g_astore C X665 at_336 338 rfl (ls' := #[iv p0, iv p1, iv p2, iv p3, iv p4, iv 4, iv r2, iv r3, iv r4, iv r5, rv b6, rv b369, rv b395, iv 2, iv 4, iv 2, rv o3665]) rfl ?_
            refine g_aload C X665 at_338 340 rfl rfl ?_
            refine g_ifnullN C X665 at_340 343 ?_
            refine g_aload C X665 at_343 345 rfl rfl ?_
            refine g_callV0 C X665 (b_18 hw) q665_0 at_345 [] [] 0 (rm7_2 hw Z665 q665_0 q665_1 q665_2 q665_3 f672 hcs) N665 pd_6 rfl 348 (fun T679 _ X679 N679 e679 => ?_)
            refine g_iload C X679 at_348 350 rfl ?_
            refine g_icmp_eq C X679 at_350 355 353 (fun hc350 => ?_) (fun hc350 => absurd hc350 (by decide))
            refine g_iload C X679 at_355 357 rfl ?_
            refine g_if_le C X679 at_357 376 360 (fun hc357 => absurd hc357 (by decide)) (fun hc357 => ?_)
            refine g_aload C X679 at_360 362 rfl rfl ?_
            refine g_iconst C X679 at_362 363 (v := 0) rfl ?_
            refine g_callV0 C X679 (b_20 hw) q665_0 at_363 [(.int 0)] [] 0 (rm16_2_0 hw Z665 q665_0 q665_1 q665_2 q665_3 f672 f673 hcs hwf) N679 pd_9 e679 366 (fun T680 _ X680 N680 e680 => ?_)
            obtain ⟨r680, hr680⟩ : ∃ z : Int32, (own_ch (nar .byte (nar .char r4).toInt8.toInt32)) = z := ⟨_, rfl⟩
            rw [hr680]
            refine g_aload C X680 at_366 368 rfl rfl ?_
            refine g_iload C X680 at_368 370 rfl ?_
            refine g_caload C X680 e680 f674 (by decide) (v := (.int (nar .char r4))) rfl at_370 371 ?_
            refine g_icmp_eq C X680 at_371 376 374 (fun hc371 => ?_) (fun hc371 => absurd (hr680.symm.trans (own_eq (own_pk hr4))) hc371)
            refine g_iload C X680 at_376 378 rfl ?_
            refine g_iconst C X680 at_378 379 (v := 1) rfl ?_
            refine g_icmp_le C X680 at_379 400 382 (fun hc379 => absurd hc379 (by decide)) (fun hc379 => ?_)
            refine g_aload C X680 at_382 384 rfl rfl ?_
            refine g_iconst C X680 at_384 385 (v := 1) rfl ?_
            refine g_callV0 C X680 (b_20 hw) q665_0 at_385 [(.int 1)] [] 0 (rm16_2_1 hw Z665 q665_0 q665_1 q665_2 q665_3 f672 f673 hcs hwf) N680 pd_9 e680 388 (fun T681 _ X681 N681 e681 => ?_)
            obtain ⟨r681, hr681⟩ : ∃ z : Int32, (own_ch (nar .byte (nar .char r5).toInt8.toInt32)) = z := ⟨_, rfl⟩
            rw [hr681]
            refine g_aload C X681 at_388 390 rfl rfl ?_
            refine g_iload C X681 at_390 392 rfl ?_
            refine g_iconst C X681 at_392 393 (v := 1) rfl ?_
            refine g_iadd C X681 at_393 394 ?_
            rw [show (2 : Int32) + 1 = 3 from by decide]
            refine g_caload C X681 e681 f674 (by decide) (v := (.int (nar .char r5))) rfl at_394 395 ?_
            refine g_icmp_eq C X681 at_395 400 398 (fun hc395 => ?_) (fun hc395 => absurd (hr681.symm.trans (own_eq (own_pk hr5))) hc395)
            refine g_iload C X681 at_400 402 rfl ?_
            refine g_iconst C X681 at_402 403 (v := 2) rfl ?_
            refine g_icmp_le C X681 at_403 424 406 (fun hc403 => ?_) (fun hc403 => absurd hc403 (by decide))
            refine g_iload C X681 at_424 426 rfl ?_
            refine g_iconst C X681 at_426 427 (v := 3) rfl ?_
            refine g_icmp_le C X681 at_427 448 430 (fun hc427 => ?_) (fun hc427 => absurd hc427 (by decide))
            refine g_iconst C X681 at_448 449 (v := 1) rfl ?_
            exact g_retNH C X681 K hS0 hk665 hEL H_665 R_665 (by simp) at_449 (by decide) (by decide) e681 ⟨rfl, N681⟩
          · subst hc244
            refine g_iconst C X659 at_247 248 (v := 0) rfl ?_
            refine g_istore C X659 at_248 250 (w := 0) rfl (ls' := #[iv p0, iv p1, iv p2, iv p3, iv p4, iv 4, iv r2, iv r3, iv r4, iv r5, rv b6, rv b369, rv b395, iv 0, uu, uu, uu]) rfl ?_
            refine g_iconst C X659 at_250 251 (v := 0) rfl ?_
            refine g_istore C X659 at_251 253 (w := 0) rfl (ls' := #[iv p0, iv p1, iv p2, iv p3, iv p4, iv 4, iv r2, iv r3, iv r4, iv r5, rv b6, rv b369, rv b395, iv 0, iv 0, uu, uu]) rfl ?_
            refine g_iload C X659 at_253 255 rfl ?_
            refine g_if_le C X659 at_255 269 258 (fun hc255 => absurd hc255 (by decide)) (fun hc255 => ?_)
            refine g_iload C X659 at_258 260 rfl ?_
            refine g_callS0 C X659 (b_19 hw) at_260 [(.int r2)] [] 0 (rm15 hw Z404) N659 pd_10 e659 263 (fun T682 _ X682 N682 e682 => ?_)
            rw [hr659]
            refine g_if_ne C X682 at_263 269 266 (fun hc263 => absurd hc263 (by decide)) (fun hc263 => ?_)
            refine g_iconst C X682 at_266 267 (v := 1) rfl ?_
            refine g_istore C X682 at_267 269 (w := 1) rfl (ls' := #[iv p0, iv p1, iv p2, iv p3, iv p4, iv 4, iv r2, iv r3, iv r4, iv r5, rv b6, rv b369, rv b395, iv 0, iv 1, uu, uu]) rfl ?_
            refine g_iload C X682 at_269 271 rfl ?_
            refine g_iconst C X682 at_271 272 (v := 1) rfl ?_
            refine g_icmp_le C X682 at_272 286 275 (fun hc272 => absurd hc272 (by decide)) (fun hc272 => ?_)
            refine g_iload C X682 at_275 277 rfl ?_
            refine g_callS0 C X682 (b_19 hw) at_277 [(.int r3)] [] 0 (rm15 hw Z404) N682 pd_10 e682 280 (fun T683 _ X683 N683 e683 => ?_)
            rw [hr658]
            refine g_if_ne C X683 at_280 286 283 (fun hc280 => ?_) (fun hc280 => absurd hc280 hc228)
            refine g_iload C X683 at_286 288 rfl ?_
            refine g_iconst C X683 at_288 289 (v := 2) rfl ?_
            refine g_icmp_le C X683 at_289 303 292 (fun hc289 => absurd hc289 (by decide)) (fun hc289 => ?_)
            refine g_iload C X683 at_292 294 rfl ?_
            refine g_callS0 C X683 (b_19 hw) at_294 [(.int r4)] [] 0 (rm15 hw Z404) N683 pd_10 e683 297 (fun T684 _ X684 N684 e684 => ?_)
            rw [hr588]
            refine g_if_ne C X684 at_297 303 300 (fun hc297 => absurd hc297 (by decide)) (fun hc297 => ?_)
            refine g_iconst C X684 at_300 301 (v := 3) rfl ?_
            refine g_istore C X684 at_301 303 (w := 3) rfl (ls' := #[iv p0, iv p1, iv p2, iv p3, iv p4, iv 4, iv r2, iv r3, iv r4, iv r5, rv b6, rv b369, rv b395, iv 0, iv 3, uu, uu]) rfl ?_
            refine g_iload C X684 at_303 305 rfl ?_
            refine g_iconst C X684 at_305 306 (v := 3) rfl ?_
            refine g_icmp_le C X684 at_306 320 309 (fun hc306 => absurd hc306 (by decide)) (fun hc306 => ?_)
            refine g_iload C X684 at_309 311 rfl ?_
            refine g_callS0 C X684 (b_19 hw) at_311 [(.int r5)] [] 0 (rm15 hw Z404) N684 pd_10 e684 314 (fun T685 _ X685 N685 e685 => ?_)
            rw [hr413]
            refine g_if_ne C X685 at_314 320 317 (fun hc314 => absurd hc314 (by decide)) (fun hc314 => ?_)
            refine g_iconst C X685 at_317 318 (v := 4) rfl ?_
            refine g_istore C X685 at_318 320 (w := 4) rfl (ls' := #[iv p0, iv p1, iv p2, iv p3, iv p4, iv 4, iv r2, iv r3, iv r4, iv r5, rv b6, rv b369, rv b395, iv 0, iv 4, uu, uu]) rfl ?_
            refine g_iconst C X685 at_320 321 (v := 0) rfl ?_
            refine g_iload C X685 at_321 323 rfl ?_
            refine g_iload C X685 at_323 325 rfl ?_
            refine g_isub C X685 at_325 326 ?_
            rw [show (4 : Int32) - 0 = 4 from by decide]
            refine g_callS0 C X685 (b_16 hw) at_326 [(.int 0), (.int 4)] [] 0 (rm5 hw Z404) N685 pd_11 e685 329 (fun T686 _ X686 N686 e686 => ?_)
            rw [show fMax (0 : Int32) (4 : Int32) = (4 : Int32) from by decide]
            refine g_istore C X686 at_329 331 (w := 4) rfl (ls' := #[iv p0, iv p1, iv p2, iv p3, iv p4, iv 4, iv r2, iv r3, iv r4, iv r5, rv b6, rv b369, rv b395, iv 0, iv 4, iv 4, uu]) rfl ?_
            refine g_aload C X686 at_331 333 rfl rfl ?_
            refine g_callS0 C X686 (b_17 hw) at_333 [(.ref b395)] [] 0 (rm6_4_0_4 hw Z404 q404_0 q404_1 q404_2 q404_3 f408 f409 hcs hwf (own_s0 (own_pk hr2) hr659 rfl) (own_s0 (own_pk hr5) hr413 rfl)) N686 pd_20 e686 336 (fun T687 _ X687 N687 e687 => ?_)
            refine g_astore C X687 at_336 338 rfl (ls' := #[iv p0, iv p1, iv p2, iv p3, iv p4, iv 4, iv r2, iv r3, iv r4, iv r5, rv b6, rv b369, rv b395, iv 0, iv 4, iv 4, rv b395]) rfl ?_
            refine g_aload C X687 at_338 340 rfl rfl ?_
            refine g_ifnullN C X687 at_340 343 ?_
            refine g_aload C X687 at_343 345 rfl rfl ?_
            refine g_callV0 C X687 (b_18 hw) q404_0 at_345 [] [] 0 (rm7_4 hw Z404 q404_0 q404_1 q404_2 q404_3 f408 hcs) N687 pd_6 e687 348 (fun T688 _ X688 N688 e688 => ?_)
            refine g_iload C X688 at_348 350 rfl ?_
            refine g_icmp_eq C X688 at_350 355 353 (fun hc350 => ?_) (fun hc350 => absurd hc350 (by decide))
            refine g_iload C X688 at_355 357 rfl ?_
            refine g_if_le C X688 at_357 376 360 (fun hc357 => absurd hc357 (by decide)) (fun hc357 => ?_)
            refine g_aload C X688 at_360 362 rfl rfl ?_
            refine g_iconst C X688 at_362 363 (v := 0) rfl ?_
            refine g_callV0 C X688 (b_20 hw) q404_0 at_363 [(.int 0)] [] 0 (rm16_4_0 hw Z404 q404_0 q404_1 q404_2 q404_3 f408 f409 hcs hwf) N688 pd_9 e688 366 (fun T689 _ X689 N689 e689 => ?_)
            obtain ⟨r689, hr689⟩ : ∃ z : Int32, (own_ch (nar .byte (nar .char r2).toInt8.toInt32)) = z := ⟨_, rfl⟩
            rw [hr689]
            refine g_aload C X689 at_366 368 rfl rfl ?_
            refine g_iload C X689 at_368 370 rfl ?_
            refine g_caload C X689 e689 f410 (by decide) (v := (.int (nar .char r2))) rfl at_370 371 ?_
            refine g_icmp_eq C X689 at_371 376 374 (fun hc371 => ?_) (fun hc371 => absurd (hr689.symm.trans (own_eq (own_pk hr2))) hc371)
            refine g_iload C X689 at_376 378 rfl ?_
            refine g_iconst C X689 at_378 379 (v := 1) rfl ?_
            refine g_icmp_le C X689 at_379 400 382 (fun hc379 => absurd hc379 (by decide)) (fun hc379 => ?_)
            refine g_aload C X689 at_382 384 rfl rfl ?_
            refine g_iconst C X689 at_384 385 (v := 1) rfl ?_
            refine g_callV0 C X689 (b_20 hw) q404_0 at_385 [(.int 1)] [] 0 (rm16_4_1 hw Z404 q404_0 q404_1 q404_2 q404_3 f408 f409 hcs hwf) N689 pd_9 e689 388 (fun T690 _ X690 N690 e690 => ?_)
            obtain ⟨r690, hr690⟩ : ∃ z : Int32, (own_ch (nar .byte (nar .char r3).toInt8.toInt32)) = z := ⟨_, rfl⟩
            rw [hr690]
            refine g_aload C X690 at_388 390 rfl rfl ?_
            refine g_iload C X690 at_390 392 rfl ?_
            refine g_iconst C X690 at_392 393 (v := 1) rfl ?_
            refine g_iadd C X690 at_393 394 ?_
            rw [show (0 : Int32) + 1 = 1 from by decide]
            refine g_caload C X690 e690 f410 (by decide) (v := (.int (nar .char r3))) rfl at_394 395 ?_
            refine g_icmp_eq C X690 at_395 400 398 (fun hc395 => ?_) (fun hc395 => absurd (hr690.symm.trans (own_eq (own_pk hr3))) hc395)
            refine g_iload C X690 at_400 402 rfl ?_
            refine g_iconst C X690 at_402 403 (v := 2) rfl ?_
            refine g_icmp_le C X690 at_403 424 406 (fun hc403 => absurd hc403 (by decide)) (fun hc403 => ?_)
            refine g_aload C X690 at_406 408 rfl rfl ?_
            refine g_iconst C X690 at_408 409 (v := 2) rfl ?_
            refine g_callV0 C X690 (b_20 hw) q404_0 at_409 [(.int 2)] [] 0 (rm16_4_2 hw Z404 q404_0 q404_1 q404_2 q404_3 f408 f409 hcs hwf) N690 pd_9 e690 412 (fun T691 _ X691 N691 e691 => ?_)
            obtain ⟨r691, hr691⟩ : ∃ z : Int32, (own_ch (nar .byte (nar .char r4).toInt8.toInt32)) = z := ⟨_, rfl⟩
            rw [hr691]
            refine g_aload C X691 at_412 414 rfl rfl ?_
            refine g_iload C X691 at_414 416 rfl ?_
            refine g_iconst C X691 at_416 417 (v := 2) rfl ?_
            refine g_iadd C X691 at_417 418 ?_
            rw [show (0 : Int32) + 2 = 2 from by decide]
            refine g_caload C X691 e691 f410 (by decide) (v := (.int (nar .char r4))) rfl at_418 419 ?_
            refine g_icmp_eq C X691 at_419 424 422 (fun hc419 => ?_) (fun hc419 => absurd (hr691.symm.trans (own_eq (own_pk hr4))) hc419)
            refine g_iload C X691 at_424 426 rfl ?_
            refine g_iconst C X691 at_426 427 (v := 3) rfl ?_
            refine g_icmp_le C X691 at_427 448 430 (fun hc427 => absurd hc427 (by decide)) (fun hc427 => ?_)
            refine g_aload C X691 at_430 432 rfl rfl ?_
            refine g_iconst C X691 at_432 433 (v := 3) rfl ?_
            refine g_callV0 C X691 (b_20 hw) q404_0 at_433 [(.int 3)] [] 0 (rm16_4_3 hw Z404 q404_0 q404_1 q404_2 q404_3 f408 f409 hcs hwf) N691 pd_9 e691 436 (fun T692 _ X692 N692 e692 => ?_)
            obtain ⟨r692, hr692⟩ : ∃ z : Int32, (own_ch (nar .byte (nar .char r5).toInt8.toInt32)) = z := ⟨_, rfl⟩
            rw [hr692]
            refine g_aload C X692 at_436 438 rfl rfl ?_
            refine g_iload C X692 at_438 440 rfl ?_
            refine g_iconst C X692 at_440 441 (v := 3) rfl ?_
            refine g_iadd C X692 at_441 442 ?_
            rw [show (0 : Int32) + 3 = 3 from by decide]
            refine g_caload C X692 e692 f410 (by decide) (v := (.int (nar .char r5))) rfl at_442 443 ?_
            refine g_icmp_eq C X692 at_443 448 446 (fun hc443 => ?_) (fun hc443 => absurd (hr692.symm.trans (own_eq (own_pk hr5))) hc443)
            refine g_iconst C X692 at_448 449 (v := 1) rfl ?_
            exact g_retNH C X692 K hS0 hk404 hEL H_404 R_404 (by simp) at_449 (by decide) (by decide) e692 ⟨rfl, N692⟩
        · subst hc228
          refine g_iconst C X658 at_231 232 (v := 1) rfl ?_
          refine g_istore C X658 at_232 234 (w := 1) rfl (ls' := #[iv p0, iv p1, iv p2, iv p3, iv p4, iv 4, iv r2, iv r3, iv r4, iv r5, rv b6, rv b369, rv b395, iv 1, uu, uu, uu]) rfl ?_
          refine g_iload C X658 at_234 236 rfl ?_
          refine g_if_le C X658 at_236 250 239 (fun hc236 => absurd hc236 (by decide)) (fun hc236 => ?_)
          refine g_iload C X658 at_239 241 rfl ?_
          refine g_callS0 C X658 (b_19 hw) at_241 [(.int r2)] [] 0 (rm15 hw Z404) N658 pd_10 e658 244 (fun T693 _ X693 N693 e693 => ?_)
          obtain ⟨r693, hr693⟩ : ∃ z : Int32, fSp r2 = z := ⟨_, rfl⟩
          rw [hr693]
          refine g_if_ne C X693 at_244 250 247 (fun hc244 => ?_) (fun hc244 => ?_)
          · refine g_iconst C X693 at_250 251 (v := 0) rfl ?_
            refine g_istore C X693 at_251 253 (w := 0) rfl (ls' := #[iv p0, iv p1, iv p2, iv p3, iv p4, iv 4, iv r2, iv r3, iv r4, iv r5, rv b6, rv b369, rv b395, iv 1, iv 0, uu, uu]) rfl ?_
            refine g_iload C X693 at_253 255 rfl ?_
            refine g_if_le C X693 at_255 269 258 (fun hc255 => absurd hc255 (by decide)) (fun hc255 => ?_)
            refine g_iload C X693 at_258 260 rfl ?_
            refine g_callS0 C X693 (b_19 hw) at_260 [(.int r2)] [] 0 (rm15 hw Z404) N693 pd_10 e693 263 (fun T694 _ X694 N694 e694 => ?_)
            rw [hr693]
            refine g_if_ne C X694 at_263 269 266 (fun hc263 => ?_) (fun hc263 => absurd hc263 hc244)
            refine g_iload C X694 at_269 271 rfl ?_
            refine g_iconst C X694 at_271 272 (v := 1) rfl ?_
            refine g_icmp_le C X694 at_272 286 275 (fun hc272 => absurd hc272 (by decide)) (fun hc272 => ?_)
            refine g_iload C X694 at_275 277 rfl ?_
            refine g_callS0 C X694 (b_19 hw) at_277 [(.int r3)] [] 0 (rm15 hw Z404) N694 pd_10 e694 280 (fun T695 _ X695 N695 e695 => ?_)
            rw [hr658]
            refine g_if_ne C X695 at_280 286 283 (fun hc280 => absurd hc280 (by decide)) (fun hc280 => ?_)
            refine g_iconst C X695 at_283 284 (v := 2) rfl ?_
            refine g_istore C X695 at_284 286 (w := 2) rfl (ls' := #[iv p0, iv p1, iv p2, iv p3, iv p4, iv 4, iv r2, iv r3, iv r4, iv r5, rv b6, rv b369, rv b395, iv 1, iv 2, uu, uu]) rfl ?_
            refine g_iload C X695 at_286 288 rfl ?_
            refine g_iconst C X695 at_288 289 (v := 2) rfl ?_
            refine g_icmp_le C X695 at_289 303 292 (fun hc289 => absurd hc289 (by decide)) (fun hc289 => ?_)
            refine g_iload C X695 at_292 294 rfl ?_
            refine g_callS0 C X695 (b_19 hw) at_294 [(.int r4)] [] 0 (rm15 hw Z404) N695 pd_10 e695 297 (fun T696 _ X696 N696 e696 => ?_)
            rw [hr588]
            refine g_if_ne C X696 at_297 303 300 (fun hc297 => absurd hc297 (by decide)) (fun hc297 => ?_)
            refine g_iconst C X696 at_300 301 (v := 3) rfl ?_
            refine g_istore C X696 at_301 303 (w := 3) rfl (ls' := #[iv p0, iv p1, iv p2, iv p3, iv p4, iv 4, iv r2, iv r3, iv r4, iv r5, rv b6, rv b369, rv b395, iv 1, iv 3, uu, uu]) rfl ?_
            refine g_iload C X696 at_303 305 rfl ?_
            refine g_iconst C X696 at_305 306 (v := 3) rfl ?_
            refine g_icmp_le C X696 at_306 320 309 (fun hc306 => absurd hc306 (by decide)) (fun hc306 => ?_)
            refine g_iload C X696 at_309 311 rfl ?_
            refine g_callS0 C X696 (b_19 hw) at_311 [(.int r5)] [] 0 (rm15 hw Z404) N696 pd_10 e696 314 (fun T697 _ X697 N697 e697 => ?_)
            rw [hr413]
            refine g_if_ne C X697 at_314 320 317 (fun hc314 => absurd hc314 (by decide)) (fun hc314 => ?_)
            refine g_iconst C X697 at_317 318 (v := 4) rfl ?_
            refine g_istore C X697 at_318 320 (w := 4) rfl (ls' := #[iv p0, iv p1, iv p2, iv p3, iv p4, iv 4, iv r2, iv r3, iv r4, iv r5, rv b6, rv b369, rv b395, iv 1, iv 4, uu, uu]) rfl ?_
            refine g_iconst C X697 at_320 321 (v := 0) rfl ?_
            refine g_iload C X697 at_321 323 rfl ?_
            refine g_iload C X697 at_323 325 rfl ?_
            refine g_isub C X697 at_325 326 ?_
            rw [show (4 : Int32) - 1 = 3 from by decide]
            refine g_callS0 C X697 (b_16 hw) at_326 [(.int 0), (.int 3)] [] 0 (rm5 hw Z404) N697 pd_11 e697 329 (fun T698 _ X698 N698 e698 => ?_)
            rw [show fMax (0 : Int32) (3 : Int32) = (3 : Int32) from by decide]
            refine g_istore C X698 at_329 331 (w := 3) rfl (ls' := #[iv p0, iv p1, iv p2, iv p3, iv p4, iv 4, iv r2, iv r3, iv r4, iv r5, rv b6, rv b369, rv b395, iv 1, iv 4, iv 3, uu]) rfl ?_
            refine g_aload C X698 at_331 333 rfl rfl ?_
            refine g_callS C X698 (w_31 hw) (w_32 hw) (w_33 hw) (w_34 hw) at_333 [(.ref b395)] [] 0 (rm6_4_1_4 hw Z404 q404_0 q404_1 q404_2 q404_3 f408 f409 hcs hwf (own_s1 (own_pk hr2) hr693 hc244) (own_s0 (own_pk hr3) hr658 rfl) (own_s0 (own_pk hr5) hr413 rfl)) pd_20 e698 336 (fun u699 T699 L699 X699 hQ699 => ?_)
            obtain ⟨o3699, o4699, kd3699, rfl, Nq699, szo3699, szo4699, Kq699, q699_0, q699_1, q699_2, q699_3⟩ := hQ699
            have N699 := Fr.app N698 Nq699
            have f706 := Sta.keepN f408 Kq699 all0
            have f707 := Sta.keepN f409 Kq699 all0
            have f708 := f410.keep Kq699 nin0
            have Z699 := Nat.le_trans Z404 Kq699.1
            have hk699 := Nat.le_trans hk404 Kq699.1
            have H_699 := CHv.keep Kq699 all0 H_404
            have R_699 := R_404.trans (CHr.keep Kq699 all0 H_404)
            refine ret1 ?_
            refine g_astore C X699 at_336 338 rfl (ls' := #[iv p0, iv p1, iv p2, iv p3, iv p4, iv 4, iv r2, iv r3, iv r4, iv r5, rv b6, rv b369, rv b395, iv 1, iv 4, iv 3, rv o3699]) rfl ?_
            refine g_aload C X699 at_338 340 rfl rfl ?_
            refine g_ifnullN C X699 at_340 343 ?_
            refine g_aload C X699 at_343 345 rfl rfl ?_
            refine g_callV0 C X699 (b_18 hw) q699_0 at_345 [] [] 0 (rm7_3 hw Z699 q699_0 q699_1 q699_2 q699_3 f706 hcs) N699 pd_6 rfl 348 (fun T713 _ X713 N713 e713 => ?_)
            refine g_iload C X713 at_348 350 rfl ?_
            refine g_icmp_eq C X713 at_350 355 353 (fun hc350 => ?_) (fun hc350 => absurd hc350 (by decide))
            refine g_iload C X713 at_355 357 rfl ?_
            refine g_if_le C X713 at_357 376 360 (fun hc357 => absurd hc357 (by decide)) (fun hc357 => ?_)
            refine g_aload C X713 at_360 362 rfl rfl ?_
            refine g_iconst C X713 at_362 363 (v := 0) rfl ?_
            refine g_callV0 C X713 (b_20 hw) q699_0 at_363 [(.int 0)] [] 0 (rm16_3_0 hw Z699 q699_0 q699_1 q699_2 q699_3 f706 f707 hcs hwf) N713 pd_9 e713 366 (fun T714 _ X714 N714 e714 => ?_)
            obtain ⟨r714, hr714⟩ : ∃ z : Int32, (own_ch (nar .byte (nar .char r3).toInt8.toInt32)) = z := ⟨_, rfl⟩
            rw [hr714]
            refine g_aload C X714 at_366 368 rfl rfl ?_
            refine g_iload C X714 at_368 370 rfl ?_
            refine g_caload C X714 e714 f708 (by decide) (v := (.int (nar .char r3))) rfl at_370 371 ?_
            refine g_icmp_eq C X714 at_371 376 374 (fun hc371 => ?_) (fun hc371 => absurd (hr714.symm.trans (own_eq (own_pk hr3))) hc371)
            refine g_iload C X714 at_376 378 rfl ?_
            refine g_iconst C X714 at_378 379 (v := 1) rfl ?_
            refine g_icmp_le C X714 at_379 400 382 (fun hc379 => absurd hc379 (by decide)) (fun hc379 => ?_)
            refine g_aload C X714 at_382 384 rfl rfl ?_
            refine g_iconst C X714 at_384 385 (v := 1) rfl ?_
            refine g_callV0 C X714 (b_20 hw) q699_0 at_385 [(.int 1)] [] 0 (rm16_3_1 hw Z699 q699_0 q699_1 q699_2 q699_3 f706 f707 hcs hwf) N714 pd_9 e714 388 (fun T715 _ X715 N715 e715 => ?_)
            obtain ⟨r715, hr715⟩ : ∃ z : Int32, (own_ch (nar .byte (nar .char r4).toInt8.toInt32)) = z := ⟨_, rfl⟩
            rw [hr715]
            refine g_aload C X715 at_388 390 rfl rfl ?_
            refine g_iload C X715 at_390 392 rfl ?_
            refine g_iconst C X715 at_392 393 (v := 1) rfl ?_
            refine g_iadd C X715 at_393 394 ?_
            rw [show (1 : Int32) + 1 = 2 from by decide]
            refine g_caload C X715 e715 f708 (by decide) (v := (.int (nar .char r4))) rfl at_394 395 ?_
            refine g_icmp_eq C X715 at_395 400 398 (fun hc395 => ?_) (fun hc395 => absurd (hr715.symm.trans (own_eq (own_pk hr4))) hc395)
            refine g_iload C X715 at_400 402 rfl ?_
            refine g_iconst C X715 at_402 403 (v := 2) rfl ?_
            refine g_icmp_le C X715 at_403 424 406 (fun hc403 => absurd hc403 (by decide)) (fun hc403 => ?_)
            refine g_aload C X715 at_406 408 rfl rfl ?_
            refine g_iconst C X715 at_408 409 (v := 2) rfl ?_
            refine g_callV0 C X715 (b_20 hw) q699_0 at_409 [(.int 2)] [] 0 (rm16_3_2 hw Z699 q699_0 q699_1 q699_2 q699_3 f706 f707 hcs hwf) N715 pd_9 e715 412 (fun T716 _ X716 N716 e716 => ?_)
            obtain ⟨r716, hr716⟩ : ∃ z : Int32, (own_ch (nar .byte (nar .char r5).toInt8.toInt32)) = z := ⟨_, rfl⟩
            rw [hr716]
            refine g_aload C X716 at_412 414 rfl rfl ?_
            refine g_iload C X716 at_414 416 rfl ?_
            refine g_iconst C X716 at_416 417 (v := 2) rfl ?_
            refine g_iadd C X716 at_417 418 ?_
            rw [show (1 : Int32) + 2 = 3 from by decide]
            refine g_caload C X716 e716 f708 (by decide) (v := (.int (nar .char r5))) rfl at_418 419 ?_
            refine g_icmp_eq C X716 at_419 424 422 (fun hc419 => ?_) (fun hc419 => absurd (hr716.symm.trans (own_eq (own_pk hr5))) hc419)
            refine g_iload C X716 at_424 426 rfl ?_
            refine g_iconst C X716 at_426 427 (v := 3) rfl ?_
            refine g_icmp_le C X716 at_427 448 430 (fun hc427 => ?_) (fun hc427 => absurd hc427 (by decide))
            refine g_iconst C X716 at_448 449 (v := 1) rfl ?_
            exact g_retNH C X716 K hS0 hk699 hEL H_699 R_699 (by simp) at_449 (by decide) (by decide) e716 ⟨rfl, N716⟩
          · subst hc244
            refine g_iconst C X693 at_247 248 (v := 0) rfl ?_
            refine g_istore C X693 at_248 250 (w := 0) rfl (ls' := #[iv p0, iv p1, iv p2, iv p3, iv p4, iv 4, iv r2, iv r3, iv r4, iv r5, rv b6, rv b369, rv b395, iv 0, uu, uu, uu]) rfl ?_
            refine g_iconst C X693 at_250 251 (v := 0) rfl ?_
            refine g_istore C X693 at_251 253 (w := 0) rfl (ls' := #[iv p0, iv p1, iv p2, iv p3, iv p4, iv 4, iv r2, iv r3, iv r4, iv r5, rv b6, rv b369, rv b395, iv 0, iv 0, uu, uu]) rfl ?_
            refine g_iload C X693 at_253 255 rfl ?_
            refine g_if_le C X693 at_255 269 258 (fun hc255 => absurd hc255 (by decide)) (fun hc255 => ?_)
            refine g_iload C X693 at_258 260 rfl ?_
            refine g_callS0 C X693 (b_19 hw) at_260 [(.int r2)] [] 0 (rm15 hw Z404) N693 pd_10 e693 263 (fun T717 _ X717 N717 e717 => ?_)
            rw [hr693]
            refine g_if_ne C X717 at_263 269 266 (fun hc263 => absurd hc263 (by decide)) (fun hc263 => ?_)
            refine g_iconst C X717 at_266 267 (v := 1) rfl ?_
            refine g_istore C X717 at_267 269 (w := 1) rfl (ls' := #[iv p0, iv p1, iv p2, iv p3, iv p4, iv 4, iv r2, iv r3, iv r4, iv r5, rv b6, rv b369, rv b395, iv 0, iv 1, uu, uu]) rfl ?_
            refine g_iload C X717 at_269 271 rfl ?_
            refine g_iconst C X717 at_271 272 (v := 1) rfl ?_
            refine g_icmp_le C X717 at_272 286 275 (fun hc272 => absurd hc272 (by decide)) (fun hc272 => ?_)
            refine g_iload C X717 at_275 277 rfl ?_
            refine g_callS0 C X717 (b_19 hw) at_277 [(.int r3)] [] 0 (rm15 hw Z404) N717 pd_10 e717 280 (fun T718 _ X718 N718 e718 => ?_)
            rw [hr658]
            refine g_if_ne C X718 at_280 286 283 (fun hc280 => absurd hc280 (by decide)) (fun hc280 => ?_)
            refine g_iconst C X718 at_283 284 (v := 2) rfl ?_
            refine g_istore C X718 at_284 286 (w := 2) rfl (ls' := #[iv p0, iv p1, iv p2, iv p3, iv p4, iv 4, iv r2, iv r3, iv r4, iv r5, rv b6, rv b369, rv b395, iv 0, iv 2, uu, uu]) rfl ?_
            refine g_iload C X718 at_286 288 rfl ?_
            refine g_iconst C X718 at_288 289 (v := 2) rfl ?_
            refine g_icmp_le C X718 at_289 303 292 (fun hc289 => absurd hc289 (by decide)) (fun hc289 => ?_)
            refine g_iload C X718 at_292 294 rfl ?_
            refine g_callS0 C X718 (b_19 hw) at_294 [(.int r4)] [] 0 (rm15 hw Z404) N718 pd_10 e718 297 (fun T719 _ X719 N719 e719 => ?_)
            rw [hr588]
            refine g_if_ne C X719 at_297 303 300 (fun hc297 => absurd hc297 (by decide)) (fun hc297 => ?_)
            refine g_iconst C X719 at_300 301 (v := 3) rfl ?_
            refine g_istore C X719 at_301 303 (w := 3) rfl (ls' := #[iv p0, iv p1, iv p2, iv p3, iv p4, iv 4, iv r2, iv r3, iv r4, iv r5, rv b6, rv b369, rv b395, iv 0, iv 3, uu, uu]) rfl ?_
            refine g_iload C X719 at_303 305 rfl ?_
            refine g_iconst C X719 at_305 306 (v := 3) rfl ?_
            refine g_icmp_le C X719 at_306 320 309 (fun hc306 => absurd hc306 (by decide)) (fun hc306 => ?_)
            refine g_iload C X719 at_309 311 rfl ?_
            refine g_callS0 C X719 (b_19 hw) at_311 [(.int r5)] [] 0 (rm15 hw Z404) N719 pd_10 e719 314 (fun T720 _ X720 N720 e720 => ?_)
            rw [hr413]
            refine g_if_ne C X720 at_314 320 317 (fun hc314 => absurd hc314 (by decide)) (fun hc314 => ?_)
            refine g_iconst C X720 at_317 318 (v := 4) rfl ?_
            refine g_istore C X720 at_318 320 (w := 4) rfl (ls' := #[iv p0, iv p1, iv p2, iv p3, iv p4, iv 4, iv r2, iv r3, iv r4, iv r5, rv b6, rv b369, rv b395, iv 0, iv 4, uu, uu]) rfl ?_
            refine g_iconst C X720 at_320 321 (v := 0) rfl ?_
            refine g_iload C X720 at_321 323 rfl ?_
            refine g_iload C X720 at_323 325 rfl ?_
            refine g_isub C X720 at_325 326 ?_
            rw [show (4 : Int32) - 0 = 4 from by decide]
            refine g_callS0 C X720 (b_16 hw) at_326 [(.int 0), (.int 4)] [] 0 (rm5 hw Z404) N720 pd_11 e720 329 (fun T721 _ X721 N721 e721 => ?_)
            rw [show fMax (0 : Int32) (4 : Int32) = (4 : Int32) from by decide]
            refine g_istore C X721 at_329 331 (w := 4) rfl (ls' := #[iv p0, iv p1, iv p2, iv p3, iv p4, iv 4, iv r2, iv r3, iv r4, iv r5, rv b6, rv b369, rv b395, iv 0, iv 4, iv 4, uu]) rfl ?_
            refine g_aload C X721 at_331 333 rfl rfl ?_
            refine g_callS0 C X721 (b_17 hw) at_333 [(.ref b395)] [] 0 (rm6_4_0_4 hw Z404 q404_0 q404_1 q404_2 q404_3 f408 f409 hcs hwf (own_s0 (own_pk hr2) hr693 rfl) (own_s0 (own_pk hr5) hr413 rfl)) N721 pd_20 e721 336 (fun T722 _ X722 N722 e722 => ?_)
            refine g_astore C X722 at_336 338 rfl (ls' := #[iv p0, iv p1, iv p2, iv p3, iv p4, iv 4, iv r2, iv r3, iv r4, iv r5, rv b6, rv b369, rv b395, iv 0, iv 4, iv 4, rv b395]) rfl ?_
            refine g_aload C X722 at_338 340 rfl rfl ?_
            refine g_ifnullN C X722 at_340 343 ?_
            refine g_aload C X722 at_343 345 rfl rfl ?_
            refine g_callV0 C X722 (b_18 hw) q404_0 at_345 [] [] 0 (rm7_4 hw Z404 q404_0 q404_1 q404_2 q404_3 f408 hcs) N722 pd_6 e722 348 (fun T723 _ X723 N723 e723 => ?_)
            refine g_iload C X723 at_348 350 rfl ?_
            refine g_icmp_eq C X723 at_350 355 353 (fun hc350 => ?_) (fun hc350 => absurd hc350 (by decide))
            refine g_iload C X723 at_355 357 rfl ?_
            refine g_if_le C X723 at_357 376 360 (fun hc357 => absurd hc357 (by decide)) (fun hc357 => ?_)
            refine g_aload C X723 at_360 362 rfl rfl ?_
            refine g_iconst C X723 at_362 363 (v := 0) rfl ?_
            refine g_callV0 C X723 (b_20 hw) q404_0 at_363 [(.int 0)] [] 0 (rm16_4_0 hw Z404 q404_0 q404_1 q404_2 q404_3 f408 f409 hcs hwf) N723 pd_9 e723 366 (fun T724 _ X724 N724 e724 => ?_)
            obtain ⟨r724, hr724⟩ : ∃ z : Int32, (own_ch (nar .byte (nar .char r2).toInt8.toInt32)) = z := ⟨_, rfl⟩
            rw [hr724]
            refine g_aload C X724 at_366 368 rfl rfl ?_
            refine g_iload C X724 at_368 370 rfl ?_
            refine g_caload C X724 e724 f410 (by decide) (v := (.int (nar .char r2))) rfl at_370 371 ?_
            refine g_icmp_eq C X724 at_371 376 374 (fun hc371 => ?_) (fun hc371 => absurd (hr724.symm.trans (own_eq (own_pk hr2))) hc371)
            refine g_iload C X724 at_376 378 rfl ?_
            refine g_iconst C X724 at_378 379 (v := 1) rfl ?_
            refine g_icmp_le C X724 at_379 400 382 (fun hc379 => absurd hc379 (by decide)) (fun hc379 => ?_)
            refine g_aload C X724 at_382 384 rfl rfl ?_
            refine g_iconst C X724 at_384 385 (v := 1) rfl ?_
            refine g_callV0 C X724 (b_20 hw) q404_0 at_385 [(.int 1)] [] 0 (rm16_4_1 hw Z404 q404_0 q404_1 q404_2 q404_3 f408 f409 hcs hwf) N724 pd_9 e724 388 (fun T725 _ X725 N725 e725 => ?_)
            obtain ⟨r725, hr725⟩ : ∃ z : Int32, (own_ch (nar .byte (nar .char r3).toInt8.toInt32)) = z := ⟨_, rfl⟩
            rw [hr725]
            refine g_aload C X725 at_388 390 rfl rfl ?_
            refine g_iload C X725 at_390 392 rfl ?_
            refine g_iconst C X725 at_392 393 (v := 1) rfl ?_
            refine g_iadd C X725 at_393 394 ?_
            rw [show (0 : Int32) + 1 = 1 from by decide]
            refine g_caload C X725 e725 f410 (by decide) (v := (.int (nar .char r3))) rfl at_394 395 ?_
            refine g_icmp_eq C X725 at_395 400 398 (fun hc395 => ?_) (fun hc395 => absurd (hr725.symm.trans (own_eq (own_pk hr3))) hc395)
            refine g_iload C X725 at_400 402 rfl ?_
            refine g_iconst C X725 at_402 403 (v := 2) rfl ?_
            refine g_icmp_le C X725 at_403 424 406 (fun hc403 => absurd hc403 (by decide)) (fun hc403 => ?_)
            refine g_aload C X725 at_406 408 rfl rfl ?_
            refine g_iconst C X725 at_408 409 (v := 2) rfl ?_
            refine g_callV0 C X725 (b_20 hw) q404_0 at_409 [(.int 2)] [] 0 (rm16_4_2 hw Z404 q404_0 q404_1 q404_2 q404_3 f408 f409 hcs hwf) N725 pd_9 e725 412 (fun T726 _ X726 N726 e726 => ?_)
            obtain ⟨r726, hr726⟩ : ∃ z : Int32, (own_ch (nar .byte (nar .char r4).toInt8.toInt32)) = z := ⟨_, rfl⟩
            rw [hr726]
            refine g_aload C X726 at_412 414 rfl rfl ?_
            refine g_iload C X726 at_414 416 rfl ?_
            refine g_iconst C X726 at_416 417 (v := 2) rfl ?_
            refine g_iadd C X726 at_417 418 ?_
            rw [show (0 : Int32) + 2 = 2 from by decide]
            refine g_caload C X726 e726 f410 (by decide) (v := (.int (nar .char r4))) rfl at_418 419 ?_
            refine g_icmp_eq C X726 at_419 424 422 (fun hc419 => ?_) (fun hc419 => absurd (hr726.symm.trans (own_eq (own_pk hr4))) hc419)
            refine g_iload C X726 at_424 426 rfl ?_
            refine g_iconst C X726 at_426 427 (v := 3) rfl ?_
            refine g_icmp_le C X726 at_427 448 430 (fun hc427 => absurd hc427 (by decide)) (fun hc427 => ?_)
            refine g_aload C X726 at_430 432 rfl rfl ?_
            refine g_iconst C X726 at_432 433 (v := 3) rfl ?_
            refine g_callV0 C X726 (b_20 hw) q404_0 at_433 [(.int 3)] [] 0 (rm16_4_3 hw Z404 q404_0 q404_1 q404_2 q404_3 f408 f409 hcs hwf) N726 pd_9 e726 436 (fun T727 _ X727 N727 e727 => ?_)
            obtain ⟨r727, hr727⟩ : ∃ z : Int32, (own_ch (nar .byte (nar .char r5).toInt8.toInt32)) = z := ⟨_, rfl⟩
            rw [hr727]
            refine g_aload C X727 at_436 438 rfl rfl ?_
            refine g_iload C X727 at_438 440 rfl ?_
            refine g_iconst C X727 at_440 441 (v := 3) rfl ?_
            refine g_iadd C X727 at_441 442 ?_
            rw [show (0 : Int32) + 3 = 3 from by decide]
            refine g_caload C X727 e727 f410 (by decide) (v := (.int (nar .char r5))) rfl at_442 443 ?_
            refine g_icmp_eq C X727 at_443 448 446 (fun hc443 => ?_) (fun hc443 => absurd (hr727.symm.trans (own_eq (own_pk hr5))) hc443)
            refine g_iconst C X727 at_448 449 (v := 1) rfl ?_
            exact g_retNH C X727 K hS0 hk404 hEL H_404 R_404 (by simp) at_449 (by decide) (by decide) e727 ⟨rfl, N727⟩
set_option maxRecDepth 65536 in
set_option maxHeartbeats 40000000 in
theorem comes_1 {Post : Tables → Env → Array Value → State → Outcome → State → Prop} (hpost : ∀ tb e args s v u, (limb_1_1.after args s (.returned v) u = true ∧ limb_1_2.after args s (.returned v) u = true ∧ True) → ReturnedEndW s (.returned v) u (Jvm.fieldLocs frame_1_writes args s ++ Jvm.arrayLocs frame_1_arrays args s ++ Jvm.staticLocs frame_1_statics s) 24 2176 → Post tb e args s (.returned v) u) :
    ArmFor flags0 classFile x code maxLocals ret World_1 tables_1 room_1 Calls_1 rest_1 Pre_1 Post := by
  intro l hfl _ _ p e ha hc hk s m args below hf hA hF happ hP
  obtain ⟨hcalls, hrest, hpre⟩ := hP
  obtain ⟨-, -, -, hnamed, -, -, -, hat⟩ := (Spec.applies_iff hf).mp happ
  obtain ⟨hg, hn⟩ := and_e (Cond.before_iff.mp (show (Jvm.Cond.and given_1 narrow_1).before args s = true from hpre))
  obtain ⟨gc, g0⟩ := and_e hg
  obtain ⟨k0, g1⟩ := and_e g0
  obtain ⟨k1, g2⟩ := and_e g1
  obtain ⟨k2, g3⟩ := and_e g2
  obtain ⟨k3, g4⟩ := and_e g3
  have k4 := g4
  obtain ⟨w0, w1, w2, w3, w4, rfl⟩ : ∃ w0 w1 w2 w3 w4 : Value, args = #[w0, w1, w2, w3, w4] := by
    have hs : args.size = 5 := by simpa [Cond.value, given_1] using gc
    obtain ⟨L⟩ := args
    match L, hs with
    | [w0, w1, w2, w3, w4], _ => exact ⟨w0, w1, w2, w3, w4, rfl⟩
  have hw := fun d (hd : d ∈ tables_1) => atoms_spec (ws := Jvm.Cond.code x code maxLocals ret :: tables_1) hat d (List.mem_cons_of_mem _ hd)
  obtain ⟨i0, ei0⟩ := is_v k0
  obtain rfl : w0 = (.int i0) := Option.some.inj ei0
  obtain ⟨i1, ei1⟩ := is_v k1
  obtain rfl : w1 = (.int i1) := Option.some.inj ei1
  obtain ⟨i2, ei2⟩ := is_v k2
  obtain rfl : w2 = (.int i2) := Option.some.inj ei2
  obtain ⟨i3, ei3⟩ := is_v k3
  obtain rfl : w3 = (.int i3) := Option.some.inj ei3
  obtain ⟨i4, ei4⟩ := is_v k4
  obtain rfl : w4 = (.int i4) := Option.some.inj ei4
  obtain ⟨hsets, hown0⟩ := atoms_of _ (rest_1_c_eq ▸ (show rest_1_c.before _ s = true from hrest))
  obtain ⟨cs1, ecs⟩ := is_v (Cond.before_iff.mp (hsets _ (List.mem_of_getElem? (i := 1) rfl)))
  have S1 := Sta.start ecs (Or.inl (hsets _ (List.mem_of_getElem? (i := 0) rfl)))
  have hcs := own_ne0 ecs (not_v (Cond.before_iff.mp (hsets _ (List.mem_of_getElem? (i := 2) rfl))))
  obtain ⟨wf1, ewf, hwf⟩ := isR_v (Cond.before_iff.mp (hsets _ (List.mem_of_getElem? (i := 8) rfl)))
  have S2 := Sta.start ewf (Or.inl (hsets _ (List.mem_of_getElem? (i := 7) rfl)))
  have hEL : EW s _ EL := EW.cons (hw _ (List.mem_of_getElem? (i := 19) rfl)) (by decide) (EW.cons (hw _ (List.mem_of_getElem? (i := 122) rfl)) (by decide) (EW.nil))
  have hCH : CHv s EL s.vm s.heap := CHv.start hEL (fun q hq => hcalls.1 q hq) (hsets _ (List.mem_of_getElem? (i := 2) rfl)) (w_20 hw) (w_7 hw)
  obtain ⟨n, o, h1, h2, h3, _, L, rfl, ⟨rfl, N⟩, -, hq⟩ := rm0 l s _ hw tables_1 i0 i1 i2 i3 i4 cs1 wf1 s.heap s.heap.size (Nat.le_refl _) hEL S1 S2 hcs hwf p e ha hc hk s m _ below hf ((Spec.applies_iff_loose hf).mp happ).1 ⟨rfl, State.Warmed39.refl s, rfl, hCH⟩ trivial
  refine ⟨n, _, h1, h2, h3, hpost _ _ _ _ _ _ ⟨Cond.after_iff.mpr rfl, Cond.after_iff.mpr (eq_i res_at (Term.int_eval (1)) rfl), trivial⟩ ⟨hq.1, hq.2.1, hq.2.2.1, (hq.2.2.2.sift fun y hy => Or.inr (N y hy)).mono (by decide) (by decide)⟩⟩
theorem main_1_1 : Claimed_1_1 := comes_1 fun _ _ _ _ _ _ h hF => ⟨h.1, hF⟩
theorem main_1_2 : Claimed_1_2 := comes_1 fun _ _ _ _ _ _ h hF => ⟨h.2.1, hF⟩
end Jvm.Pilot.@@N@@
namespace Jvm.Pilot.@@N@@
open Jvm Jvm.ClassFile Sem Op Lib Jvm.Free Jvm.Stand Jvm.Pilot.@@N@@.Jvm.D
/-! MADE BY PROGRAM (witnessworld.py) out of the Statement's table words and the real class files: 23 classes; the members and pool entries that the words name. The judged class is class 1, her method 3. -/
namespace start1
open Jvm.ClassFile
def u (s : String) : CpInfo := .utf8 (stringToUtf16 s)
/-- a pool by its gaps: so many unusable entries, then the entry; so many at the end -/
def gap : Nat → List CpInfo → List CpInfo
  | 0, r => r
  | n + 1, r => .unusable :: gap n r
def poolList (es : List (Nat × CpInfo)) (last : Nat) : List CpInfo := es.foldr (fun e r => gap e.1 (e.2 :: r)) (gap last [])
def pool (es : List (Nat × CpInfo)) (last : Nat) : Array CpInfo := ⟨poolList es last⟩
def fileOf (pool : Array CpInfo) (this : Nat) (attrs : Array Attribute := #[]) (ms : Array MethodInfo := #[]) (fl : Nat := 33) (sup : Nat := 0) (ifs : Array Nat := #[]) (fds : Array FieldInfo := #[]) : ClassFile where
  minorVersion := 0
  majorVersion := 65
  constantPool := pool
  accessFlags := fl
  thisClass := this
  superClass := sup
  interfaces := ifs
  fields := fds
  methods := ms
  attributes := attrs
def plain (name : String) (sup : Option ClassId) : Class where
  name := name
  kind := .ordinary
  loader := none
  accessFlags := 33
  super := sup
  interfaces := #[]
  cf := none
  fields := #[]
  methods := #[]
  instanceTypes := #[]
  staticTypes := #[]
  resolved := #[]
  callSites := []
  init := .initialized
  statics := none
  mirror := none

def pool0 : Array CpInfo := pool [(5, u "<init>"), (0, u "()V"), (1, .class_ 10), (1, u "java/lang/Object")] 113

def k0c0 : Code := { maxStack := 0, maxLocals := 1, code := object_method_1_code, exceptionTable := #[], attributes := #[] }
def k0m0 : Method := { name := "<init>", desc := "()V", sig := { parameters := [], returnType := none }, accessFlags := 1, code := some k0c0 }
/-- java/lang/Object -/
def k0 : Class := { plain "java/lang/Object" none with
  accessFlags := 33
  interfaces := #[]
  cf := some (fileOf pool0 8 #[] #[{ accessFlags := 1, nameIndex := 5, descriptorIndex := 6, attributes := #[] }] 33 0 #[] #[])
  fields := #[]
  methods := #[k0m0]
  instanceTypes := #[]
  staticTypes := #[]
  resolved := Array.replicate 124 none
  statics := none }

def pool1 : Array CpInfo := pool [(2, .class_ 4), (1, u "java/lang/Object"), (0, u "<init>"), (0, u "()V"), (0, .integer 2147483647), (0, .methodref 9 10), (0, .class_ 11), (0, .nameAndType 12 13), (0, u "com/example/firer/firer/formats/XmlSpaceTrimPinLaw"), (0, u "pick"), (0, u "(I)C"), (0, .class_ 15), (0, u "java/lang/String"), (0, .methodref 14 17), (0, .nameAndType 5 18), (0, u "([C)V"), (0, .methodref 9 20), (0, .nameAndType 21 22), (0, u "sp"), (0, u "(C)Z"), (0, .methodref 24 25), (0, .class_ 26), (0, .nameAndType 27 28), (0, u "java/lang/Math"), (0, u "max"), (0, u "(II)I"), (0, .methodref 30 31), (0, .class_ 32), (0, .nameAndType 33 34), (0, u "com/example/firer/firer/formats/XmlSpace"), (0, u "trim"), (0, u "(Ljava/lang/String;)Ljava/lang/String;"), (0, .methodref 14 36), (0, .nameAndType 37 38), (0, u "length"), (0, u "()I"), (0, .methodref 14 40), (0, .nameAndType 41 13), (0, u "charAt"), (3, u "law"), (0, u "(IIIII)Z")] 4

def k1m0 : Method := { name := "<init>", desc := "()V", sig := { parameters := [], returnType := none }, accessFlags := 2, code := none }
def k1c1 : Code := { maxStack := 2, maxLocals := 2, code := method_2_code, exceptionTable := #[], attributes := #[] }
def k1m1 : Method := { name := "pick", desc := "(I)C", sig := { parameters := [.int], returnType := some .char }, accessFlags := 10, code := some k1c1 }
def k1c2 : Code := { maxStack := 2, maxLocals := 1, code := method_3_code, exceptionTable := #[], attributes := #[] }
def k1m2 : Method := { name := "sp", desc := "(C)Z", sig := { parameters := [.char], returnType := some .boolean }, accessFlags := 10, code := some k1c2 }
def k1c3 : Code := { maxStack := 4, maxLocals := 17, code := code, exceptionTable := #[], attributes := #[] }
def k1m3 : Method := { name := "law", desc := "(IIIII)Z", sig := { parameters := [.int, .int, .int, .int, .int], returnType := some .boolean }, accessFlags := 9, code := some k1c3 }
/-- com/example/firer/firer/formats/XmlSpaceTrimPinLaw -/
def k1 : Class := { plain "com/example/firer/firer/formats/XmlSpaceTrimPinLaw" (some 0) with
  accessFlags := 49
  interfaces := #[]
  cf := some (fileOf pool1 9 #[] #[{ accessFlags := 2, nameIndex := 5, descriptorIndex := 6, attributes := #[] }, { accessFlags := 10, nameIndex := 12, descriptorIndex := 13, attributes := #[] }, { accessFlags := 10, nameIndex := 21, descriptorIndex := 22, attributes := #[] }, { accessFlags := 9, nameIndex := 45, descriptorIndex := 46, attributes := #[] }] 49 2 #[] #[])
  fields := #[]
  methods := #[k1m0, k1m1, k1m2, k1m3]
  instanceTypes := #[]
  staticTypes := #[]
  resolved := Array.replicate 51 none
  statics := none }

def pool2 : Array CpInfo := pool [(1, .class_ 2), (0, u "java/io/Serializable"), (0, .class_ 4), (0, u "java/lang/Object")] 2

/-- java/io/Serializable -/
def k2 : Class := { plain "java/io/Serializable" (some 0) with
  accessFlags := 1537
  interfaces := #[]
  cf := some (fileOf pool2 1 #[] #[] 1537 3 #[] #[])
  fields := #[]
  methods := #[]
  instanceTypes := #[]
  staticTypes := #[]
  resolved := Array.replicate 7 none
  statics := none }

def pool3 : Array CpInfo := pool [(1, .class_ 2), (0, u "java/lang/Comparable"), (0, .class_ 4), (0, u "java/lang/Object")] 7

/-- java/lang/Comparable -/
def k3 : Class := { plain "java/lang/Comparable" (some 0) with
  accessFlags := 1537
  interfaces := #[]
  cf := some (fileOf pool3 1 #[] #[] 1537 3 #[] #[])
  fields := #[]
  methods := #[]
  instanceTypes := #[]
  staticTypes := #[]
  resolved := Array.replicate 12 none
  statics := none }

def pool4 : Array CpInfo := pool [(2, .class_ 4), (1, u "java/lang/CharSequence"), (42, .class_ 48), (0, u "java/lang/CharSequence$1CodePointIterator"), (10, .class_ 60), (0, u "java/lang/CharSequence$1CharIterator"), (5, .class_ 67), (0, u "java/lang/Object")] 63

/-- java/lang/CharSequence -/
def k4 : Class := { plain "java/lang/CharSequence" (some 0) with
  accessFlags := 1537
  interfaces := #[]
  cf := some (fileOf pool4 2 #[.nestMembers #[47, 59]] #[] 1537 66 #[] #[])
  fields := #[]
  methods := #[]
  instanceTypes := #[]
  staticTypes := #[]
  resolved := Array.replicate 131 none
  statics := none }

def pool5 : Array CpInfo := pool [(1, .class_ 2), (0, u "java/lang/constant/Constable"), (0, .class_ 4), (0, u "java/lang/Object")] 6

/-- java/lang/constant/Constable -/
def k5 : Class := { plain "java/lang/constant/Constable" (some 0) with
  accessFlags := 1537
  interfaces := #[]
  cf := some (fileOf pool5 1 #[] #[] 1537 3 #[] #[])
  fields := #[]
  methods := #[]
  instanceTypes := #[]
  staticTypes := #[]
  resolved := Array.replicate 11 none
  statics := none }

def pool6 : Array CpInfo := pool [(1, .class_ 2), (0, u "java/lang/constant/ConstantDesc"), (0, .class_ 4), (0, u "java/lang/Object")] 32

/-- java/lang/constant/ConstantDesc -/
def k6 : Class := { plain "java/lang/constant/ConstantDesc" (some 0) with
  accessFlags := 1537
  interfaces := #[]
  cf := some (fileOf pool6 1 #[] #[] 1537 3 #[] #[])
  fields := #[]
  methods := #[]
  instanceTypes := #[]
  staticTypes := #[]
  resolved := Array.replicate 37 none
  statics := none }

def pool7 : Array CpInfo := pool [(1, .methodref 2 3), (0, .class_ 4), (0, .nameAndType 5 6), (0, u "java/lang/Object"), (0, u "<init>"), (0, u "()V"), (0, .string 8), (0, u ""), (0, .fieldref 10 11), (0, .class_ 12), (0, .nameAndType 13 14), (0, u "java/lang/String"), (0, u "value"), (0, u "[B"), (0, .fieldref 10 16), (0, .nameAndType 17 18), (0, u "coder"), (0, u "B"), (2, u "hash"), (0, u "I"), (2, u "hashIsZero"), (0, u "Z"), (0, .methodref 10 28), (0, .nameAndType 5 29), (0, u "([CIILjava/lang/Void;)V"), (8, .fieldref 10 39), (0, .nameAndType 40 26), (0, u "COMPACT_STRINGS"), (1, .class_ 44), (1, u "java/lang/StringUTF16"), (0, u "compress"), (1, .methodref 42 48), (0, .nameAndType 49 50), (0, u "coderFromArrayLen"), (0, u "([BI)B"), (56, .class_ 109), (1, u "java/lang/StringLatin1"), (32, u "()Z"), (34, .methodref 42 178), (0, .nameAndType 45 179), (0, u "([CII)[B"), (31, u "([BB)V"), (122, u "()I"), (0, .methodref 10 336), (0, .nameAndType 17 337), (0, u "()B"), (25, u "([BI)C"), (27, u "(II)V"), (35, u "(I)C"), (64, .methodref 10 493), (0, .nameAndType 494 142), (0, u "isLatin1"), (0, .methodref 107 496), (0, .nameAndType 497 363), (0, u "charAt"), (3, u "checkIndex"), (3, .methodref 10 506), (0, .nameAndType 507 334), (0, u "length"), (5, u "checkFromToIndex"), (7, .methodref 10 522), (0, .nameAndType 523 524), (0, u "checkBoundsBeginEnd"), (0, u "(III)V"), (50, .class_ 576), (0, u "java/lang/CharSequence"), (22, u "CASE_INSENSITIVE_ORDER"), (0, u "Ljava/util/Comparator;"), (82, u "substring"), (0, u "(II)Ljava/lang/String;"), (0, .methodref 107 686), (0, .nameAndType 687 688), (0, u "newString"), (0, u "([BII)Ljava/lang/String;"), (321, u "([C)V"), (42, .fieldref 1054 1055), (0, .class_ 1056), (0, .nameAndType 1057 1058), (0, u "jdk/internal/util/Preconditions"), (0, u "SIOOBE_FORMATTER"), (0, u "Ljava/util/function/BiFunction;"), (0, .methodref 1054 1060), (0, .nameAndType 501 1061), (0, u "(IILjava/util/function/BiFunction;)I"), (0, .methodref 1054 1063), (0, .nameAndType 513 1064), (0, u "(IIILjava/util/function/BiFunction;)I"), (36, u "serialPersistentFields"), (0, u "[Ljava/io/ObjectStreamField;"), (0, .class_ 1104), (0, u "java/lang/String$CaseInsensitiveComparator"), (1, .class_ 1107), (0, u "java/io/Serializable"), (0, .class_ 1109), (0, u "java/lang/Comparable"), (0, .class_ 1111), (0, u "java/lang/constant/Constable"), (0, .class_ 1113), (0, u "java/lang/constant/ConstantDesc"), (2, u "serialVersionUID"), (0, u "J"), (3, u "REPL"), (0, u "C"), (2, u "LATIN1"), (1, u "UTF16")] 323

def k7m0 : Method := { name := "<init>", desc := "()V", sig := { parameters := [], returnType := none }, accessFlags := 1, code := none }
def k7c1 : Code := { maxStack := 5, maxLocals := 2, code := jdk_42_method_3_code, exceptionTable := #[], attributes := #[] }
def k7m1 : Method := { name := "<init>", desc := "([C)V", sig := { parameters := [(.array .char)], returnType := none }, accessFlags := 1, code := some k7c1 }
def k7c2 : Code := { maxStack := 2, maxLocals := 1, code := jdk_42_method_54_code, exceptionTable := #[], attributes := #[] }
def k7m2 : Method := { name := "length", desc := "()I", sig := { parameters := [], returnType := some .int }, accessFlags := 1, code := some k7c2 }
def k7c3 : Code := { maxStack := 2, maxLocals := 2, code := jdk_42_method_56_code, exceptionTable := #[], attributes := #[] }
def k7m3 : Method := { name := "charAt", desc := "(I)C", sig := { parameters := [.int], returnType := some .char }, accessFlags := 1, code := some k7c3 }
def k7c4 : Code := { maxStack := 3, maxLocals := 5, code := jdk_42_method_92_code, exceptionTable := #[], attributes := #[] }
def k7m4 : Method := { name := "substring", desc := "(II)Ljava/lang/String;", sig := { parameters := [.int, .int], returnType := some (.object "java/lang/String") }, accessFlags := 1, code := some k7c4 }
def k7c5 : Code := { maxStack := 4, maxLocals := 6, code := jdk_42_method_149_code, exceptionTable := #[], attributes := #[] }
def k7m5 : Method := { name := "<init>", desc := "([CIILjava/lang/Void;)V", sig := { parameters := [(.array .char), .int, .int, (.object "java/lang/Void")], returnType := none }, accessFlags := 2, code := some k7c5 }
def k7c6 : Code := { maxStack := 2, maxLocals := 3, code := jdk_42_method_151_code, exceptionTable := #[], attributes := #[] }
def k7m6 : Method := { name := "<init>", desc := "([BB)V", sig := { parameters := [(.array .byte), .byte], returnType := none }, accessFlags := 0, code := some k7c6 }
def k7c7 : Code := { maxStack := 1, maxLocals := 1, code := jdk_42_method_152_code, exceptionTable := #[], attributes := #[] }
def k7m7 : Method := { name := "coder", desc := "()B", sig := { parameters := [], returnType := some .byte }, accessFlags := 0, code := some k7c7 }
def k7c8 : Code := { maxStack := 1, maxLocals := 1, code := jdk_42_method_154_code, exceptionTable := #[], attributes := #[] }
def k7m8 : Method := { name := "isLatin1", desc := "()Z", sig := { parameters := [], returnType := some .boolean }, accessFlags := 0, code := some k7c8 }
def k7c9 : Code := { maxStack := 3, maxLocals := 2, code := jdk_42_method_155_code, exceptionTable := #[], attributes := #[] }
def k7m9 : Method := { name := "checkIndex", desc := "(II)V", sig := { parameters := [.int, .int], returnType := none }, accessFlags := 8, code := some k7c9 }
def k7c10 : Code := { maxStack := 4, maxLocals := 3, code := jdk_42_method_158_code, exceptionTable := #[], attributes := #[] }
def k7m10 : Method := { name := "checkBoundsBeginEnd", desc := "(III)V", sig := { parameters := [.int, .int, .int], returnType := none }, accessFlags := 8, code := some k7c10 }
/-- java/lang/String -/
def k7 : Class := { plain "java/lang/String" (some 0) with
  accessFlags := 49
  interfaces := #[2, 3, 4, 5, 6]
  cf := some (fileOf pool7 10 #[.nestMembers #[1103]] #[{ accessFlags := 1, nameIndex := 5, descriptorIndex := 6, attributes := #[] }, { accessFlags := 1, nameIndex := 5, descriptorIndex := 1010, attributes := #[] }, { accessFlags := 1, nameIndex := 507, descriptorIndex := 334, attributes := #[] }, { accessFlags := 1, nameIndex := 497, descriptorIndex := 427, attributes := #[] }, { accessFlags := 1, nameIndex := 683, descriptorIndex := 684, attributes := #[] }, { accessFlags := 2, nameIndex := 5, descriptorIndex := 29, attributes := #[] }, { accessFlags := 0, nameIndex := 5, descriptorIndex := 211, attributes := #[] }, { accessFlags := 0, nameIndex := 17, descriptorIndex := 337, attributes := #[] }, { accessFlags := 0, nameIndex := 494, descriptorIndex := 142, attributes := #[] }, { accessFlags := 8, nameIndex := 501, descriptorIndex := 391, attributes := #[] }, { accessFlags := 8, nameIndex := 523, descriptorIndex := 524, attributes := #[] }] 49 2 #[1106, 1108, 575, 1110, 1112] #[{ accessFlags := 18, nameIndex := 13, descriptorIndex := 14, attributes := #[] }, { accessFlags := 18, nameIndex := 17, descriptorIndex := 18, attributes := #[] }, { accessFlags := 2, nameIndex := 21, descriptorIndex := 22, attributes := #[] }, { accessFlags := 2, nameIndex := 25, descriptorIndex := 26, attributes := #[] }, { accessFlags := 26, nameIndex := 1116, descriptorIndex := 1117, attributes := #[] }, { accessFlags := 24, nameIndex := 40, descriptorIndex := 26, attributes := #[] }, { accessFlags := 26, nameIndex := 1101, descriptorIndex := 1102, attributes := #[] }, { accessFlags := 26, nameIndex := 1121, descriptorIndex := 1122, attributes := #[] }, { accessFlags := 25, nameIndex := 599, descriptorIndex := 600, attributes := #[] }, { accessFlags := 24, nameIndex := 1125, descriptorIndex := 18, attributes := #[] }, { accessFlags := 24, nameIndex := 1127, descriptorIndex := 18, attributes := #[] }])
  fields := #[{ name := "value", type := (.array .byte), accessFlags := 18, slot := 0, constantValue := 0 }, { name := "coder", type := .byte, accessFlags := 18, slot := 1, constantValue := 0 }, { name := "hash", type := .int, accessFlags := 2, slot := 2, constantValue := 0 }, { name := "hashIsZero", type := .boolean, accessFlags := 2, slot := 3, constantValue := 0 }, { name := "serialVersionUID", type := .long, accessFlags := 26, slot := 0, constantValue := 0 }, { name := "COMPACT_STRINGS", type := .boolean, accessFlags := 24, slot := 1, constantValue := 0 }, { name := "serialPersistentFields", type := (.array (.object "java/io/ObjectStreamField")), accessFlags := 26, slot := 2, constantValue := 0 }, { name := "REPL", type := .char, accessFlags := 26, slot := 3, constantValue := 0 }, { name := "CASE_INSENSITIVE_ORDER", type := (.object "java/util/Comparator"), accessFlags := 25, slot := 4, constantValue := 0 }, { name := "LATIN1", type := .byte, accessFlags := 24, slot := 5, constantValue := 0 }, { name := "UTF16", type := .byte, accessFlags := 24, slot := 6, constantValue := 0 }]
  methods := #[k7m0, k7m1, k7m2, k7m3, k7m4, k7m5, k7m6, k7m7, k7m8, k7m9, k7m10]
  instanceTypes := #[(.array .byte), .byte, .int, .boolean]
  staticTypes := #[.long, .boolean, (.array (.object "java/io/ObjectStreamField")), .char, (.object "java/util/Comparator"), .byte, .byte]
  resolved := Array.replicate 1451 none
  statics := some 0 }

def pool8 : Array CpInfo := pool [(1, .class_ 2), (0, u "java/lang/Math"), (1, .class_ 6), (1, u "java/lang/Object"), (0, u "<init>"), (0, u "()V"), (89, .class_ 100), (1, u "java/lang/Math$RandomNumberGeneratorHolder"), (71, u "negativeZeroFloatBits"), (0, u "J"), (2, u "negativeZeroDoubleBits"), (21, u "max"), (2, u "min"), (43, u "$assertionsDisabled"), (0, u "Z"), (88, u "(II)I"), (2, u "twoToTheDoubleScaleDown"), (0, u "D"), (4, u "twoToTheDoubleScaleUp"), (9, u "E"), (3, u "PI"), (2, u "TAU"), (2, u "DEGREES_TO_RADIANS"), (0, u "RADIANS_TO_DEGREES")] 94

def k8m0 : Method := { name := "<init>", desc := "()V", sig := { parameters := [], returnType := none }, accessFlags := 2, code := none }
def k8c1 : Code := { maxStack := 2, maxLocals := 2, code := jdk_29_method_65_code, exceptionTable := #[], attributes := #[] }
def k8m1 : Method := { name := "max", desc := "(II)I", sig := { parameters := [.int, .int], returnType := some .int }, accessFlags := 9, code := some k8c1 }
def k8c2 : Code := { maxStack := 2, maxLocals := 2, code := jdk_29_method_69_code, exceptionTable := #[], attributes := #[] }
def k8m2 : Method := { name := "min", desc := "(II)I", sig := { parameters := [.int, .int], returnType := some .int }, accessFlags := 9, code := some k8c2 }
/-- java/lang/Math -/
def k8 : Class := { plain "java/lang/Math" (some 0) with
  accessFlags := 49
  interfaces := #[]
  cf := some (fileOf pool8 1 #[.nestMembers #[98]] #[{ accessFlags := 2, nameIndex := 7, descriptorIndex := 8, attributes := #[] }, { accessFlags := 9, nameIndex := 198, descriptorIndex := 335, attributes := #[] }, { accessFlags := 9, nameIndex := 201, descriptorIndex := 335, attributes := #[] }] 49 4 #[] #[{ accessFlags := 25, nameIndex := 354, descriptorIndex := 339, attributes := #[] }, { accessFlags := 25, nameIndex := 358, descriptorIndex := 339, attributes := #[] }, { accessFlags := 25, nameIndex := 361, descriptorIndex := 339, attributes := #[] }, { accessFlags := 26, nameIndex := 364, descriptorIndex := 339, attributes := #[] }, { accessFlags := 26, nameIndex := 365, descriptorIndex := 339, attributes := #[] }, { accessFlags := 26, nameIndex := 172, descriptorIndex := 173, attributes := #[] }, { accessFlags := 26, nameIndex := 176, descriptorIndex := 173, attributes := #[] }, { accessFlags := 8, nameIndex := 344, descriptorIndex := 339, attributes := #[] }, { accessFlags := 8, nameIndex := 338, descriptorIndex := 339, attributes := #[] }, { accessFlags := 4120, nameIndex := 245, descriptorIndex := 246, attributes := #[] }])
  fields := #[{ name := "E", type := .double, accessFlags := 25, slot := 0, constantValue := 0 }, { name := "PI", type := .double, accessFlags := 25, slot := 1, constantValue := 0 }, { name := "TAU", type := .double, accessFlags := 25, slot := 2, constantValue := 0 }, { name := "DEGREES_TO_RADIANS", type := .double, accessFlags := 26, slot := 3, constantValue := 0 }, { name := "RADIANS_TO_DEGREES", type := .double, accessFlags := 26, slot := 4, constantValue := 0 }, { name := "negativeZeroFloatBits", type := .long, accessFlags := 26, slot := 5, constantValue := 0 }, { name := "negativeZeroDoubleBits", type := .long, accessFlags := 26, slot := 6, constantValue := 0 }, { name := "twoToTheDoubleScaleUp", type := .double, accessFlags := 8, slot := 7, constantValue := 0 }, { name := "twoToTheDoubleScaleDown", type := .double, accessFlags := 8, slot := 8, constantValue := 0 }, { name := "$assertionsDisabled", type := .boolean, accessFlags := 4120, slot := 9, constantValue := 0 }]
  methods := #[k8m0, k8m1, k8m2]
  instanceTypes := #[]
  staticTypes := #[.double, .double, .double, .double, .double, .long, .long, .double, .double, .boolean]
  resolved := Array.replicate 460 none
  statics := none }

def pool9 : Array CpInfo := pool [(2, .class_ 4), (1, u "java/lang/Object"), (0, u "<init>"), (0, u "()V"), (0, .methodref 8 9), (0, .class_ 10), (0, .nameAndType 11 12), (0, u "java/lang/String"), (0, u "length"), (0, u "()I"), (0, .methodref 8 14), (0, .nameAndType 15 16), (0, u "charAt"), (0, u "(I)C"), (0, .methodref 18 19), (0, .class_ 20), (0, .nameAndType 21 22), (0, u "com/example/firer/firer/formats/XmlSpace"), (0, u "isSpace"), (0, u "(C)Z"), (0, .methodref 8 24), (0, .nameAndType 25 26), (0, u "substring"), (0, u "(II)Ljava/lang/String;"), (2, u "trim"), (0, u "(Ljava/lang/String;)Ljava/lang/String;")] 3

def k9m0 : Method := { name := "<init>", desc := "()V", sig := { parameters := [], returnType := none }, accessFlags := 2, code := none }
def k9c1 : Code := { maxStack := 3, maxLocals := 3, code := prog_35_method_2_code, exceptionTable := #[], attributes := #[] }
def k9m1 : Method := { name := "trim", desc := "(Ljava/lang/String;)Ljava/lang/String;", sig := { parameters := [(.object "java/lang/String")], returnType := some (.object "java/lang/String") }, accessFlags := 8, code := some k9c1 }
def k9c2 : Code := { maxStack := 2, maxLocals := 1, code := prog_35_method_3_code, exceptionTable := #[], attributes := #[] }
def k9m2 : Method := { name := "isSpace", desc := "(C)Z", sig := { parameters := [.char], returnType := some .boolean }, accessFlags := 10, code := some k9c2 }
/-- com/example/firer/firer/formats/XmlSpace -/
def k9 : Class := { plain "com/example/firer/firer/formats/XmlSpace" (some 0) with
  accessFlags := 48
  interfaces := #[]
  cf := some (fileOf pool9 18 #[] #[{ accessFlags := 2, nameIndex := 5, descriptorIndex := 6, attributes := #[] }, { accessFlags := 8, nameIndex := 29, descriptorIndex := 30, attributes := #[] }, { accessFlags := 10, nameIndex := 21, descriptorIndex := 22, attributes := #[] }] 48 2 #[] #[])
  fields := #[]
  methods := #[k9m0, k9m1, k9m2]
  instanceTypes := #[]
  staticTypes := #[]
  resolved := Array.replicate 34 none
  statics := none }

def pool10 : Array CpInfo := pool [(2, .class_ 4), (1, u "java/lang/Object"), (0, u "<init>"), (0, u "()V"), (17, .class_ 26), (1, u "jdk/internal/util/Preconditions"), (6, u "checkIndex"), (13, u "checkFromToIndex"), (7, .class_ 56), (0, u "jdk/internal/util/Preconditions$4"), (57, .class_ 115), (0, u "jdk/internal/util/Preconditions$1"), (7, u "SIOOBE_FORMATTER"), (0, u "Ljava/util/function/BiFunction;"), (0, .class_ 126), (0, u "jdk/internal/util/Preconditions$2"), (3, u "AIOOBE_FORMATTER"), (0, .class_ 132), (0, u "jdk/internal/util/Preconditions$3"), (3, u "IOOBE_FORMATTER"), (41, u "(IILjava/util/function/BiFunction;)I"), (4, u "(IIILjava/util/function/BiFunction;)I")] 10

def k10m0 : Method := { name := "<init>", desc := "()V", sig := { parameters := [], returnType := none }, accessFlags := 1, code := none }
def k10c1 : Code := { maxStack := 3, maxLocals := 3, code := jdk_41_method_11_code, exceptionTable := #[], attributes := #[] }
def k10m1 : Method := { name := "checkIndex", desc := "(IILjava/util/function/BiFunction;)I", sig := { parameters := [.int, .int, (.object "java/util/function/BiFunction")], returnType := some .int }, accessFlags := 9, code := some k10c1 }
def k10c2 : Code := { maxStack := 4, maxLocals := 4, code := jdk_41_method_12_code, exceptionTable := #[], attributes := #[] }
def k10m2 : Method := { name := "checkFromToIndex", desc := "(IIILjava/util/function/BiFunction;)I", sig := { parameters := [.int, .int, .int, (.object "java/util/function/BiFunction")], returnType := some .int }, accessFlags := 9, code := some k10c2 }
/-- jdk/internal/util/Preconditions -/
def k10 : Class := { plain "jdk/internal/util/Preconditions" (some 0) with
  accessFlags := 33
  interfaces := #[]
  cf := some (fileOf pool10 24 #[.nestMembers #[55, 131, 125, 114]] #[{ accessFlags := 1, nameIndex := 5, descriptorIndex := 6, attributes := #[] }, { accessFlags := 9, nameIndex := 33, descriptorIndex := 178, attributes := #[] }, { accessFlags := 9, nameIndex := 47, descriptorIndex := 183, attributes := #[] }] 33 2 #[] #[{ accessFlags := 25, nameIndex := 123, descriptorIndex := 124, attributes := #[] }, { accessFlags := 25, nameIndex := 130, descriptorIndex := 124, attributes := #[] }, { accessFlags := 25, nameIndex := 136, descriptorIndex := 124, attributes := #[] }])
  fields := #[{ name := "SIOOBE_FORMATTER", type := (.object "java/util/function/BiFunction"), accessFlags := 25, slot := 0, constantValue := 0 }, { name := "AIOOBE_FORMATTER", type := (.object "java/util/function/BiFunction"), accessFlags := 25, slot := 1, constantValue := 0 }, { name := "IOOBE_FORMATTER", type := (.object "java/util/function/BiFunction"), accessFlags := 25, slot := 2, constantValue := 0 }]
  methods := #[k10m0, k10m1, k10m2]
  instanceTypes := #[]
  staticTypes := #[(.object "java/util/function/BiFunction"), (.object "java/util/function/BiFunction"), (.object "java/util/function/BiFunction")]
  resolved := Array.replicate 194 none
  statics := some 1 }

def pool11 : Array CpInfo := pool [(6, .class_ 8), (1, u "java/lang/Object"), (0, u "<init>"), (0, u "()V"), (1, .class_ 14), (1, u "java/lang/StringUTF16"), (31, u "$assertionsDisabled"), (0, u "Z"), (13, u "HI_BYTE_SHIFT"), (0, u "I"), (2, u "LO_BYTE_SHIFT"), (49, .methodref 12 116), (0, .nameAndType 117 118), (0, u "compress"), (0, u "([CI[BII)I"), (3, u "([CII)[B"), (138, u "coderFromArrayLen"), (0, u "([BI)B"), (106, .class_ 371), (1, u "java/lang/StringUTF16$LinesSpliterator"), (58, u "MAX_LENGTH"), (196, .class_ 628), (0, u "java/lang/StringUTF16$CodePointsSpliterator"), (0, .class_ 630), (0, u "java/lang/StringUTF16$CharsSpliterator")] 4

def k11m0 : Method := { name := "<init>", desc := "()V", sig := { parameters := [], returnType := none }, accessFlags := 0, code := none }
def k11c1 : Code := { maxStack := 2, maxLocals := 2, code := jdk_52_method_15_code, exceptionTable := #[], attributes := #[] }
def k11m1 : Method := { name := "coderFromArrayLen", desc := "([BI)B", sig := { parameters := [(.array .byte), .int], returnType := some .byte }, accessFlags := 8, code := some k11c1 }
def k11c2 : Code := { maxStack := 5, maxLocals := 6, code := jdk_52_method_16_code, exceptionTable := #[], attributes := #[] }
def k11m2 : Method := { name := "compress", desc := "([CII)[B", sig := { parameters := [(.array .char), .int, .int], returnType := some (.array .byte) }, accessFlags := 9, code := some k11c2 }
def k11c3 : Code := { maxStack := 3, maxLocals := 7, code := jdk_52_method_21_code, exceptionTable := #[], attributes := #[] }
def k11m3 : Method := { name := "compress", desc := "([CI[BII)I", sig := { parameters := [(.array .char), .int, (.array .byte), .int, .int], returnType := some .int }, accessFlags := 9, code := some k11c3 }
/-- java/lang/StringUTF16 -/
def k11 : Class := { plain "java/lang/StringUTF16" (some 0) with
  accessFlags := 48
  interfaces := #[]
  cf := some (fileOf pool11 12 #[.nestMembers #[627, 629, 369]] #[{ accessFlags := 0, nameIndex := 9, descriptorIndex := 10, attributes := #[] }, { accessFlags := 8, nameIndex := 261, descriptorIndex := 262, attributes := #[] }, { accessFlags := 9, nameIndex := 117, descriptorIndex := 122, attributes := #[] }, { accessFlags := 9, nameIndex := 117, descriptorIndex := 118, attributes := #[] }] 48 6 #[] #[{ accessFlags := 26, nameIndex := 61, descriptorIndex := 62, attributes := #[] }, { accessFlags := 26, nameIndex := 65, descriptorIndex := 62, attributes := #[] }, { accessFlags := 24, nameIndex := 430, descriptorIndex := 62, attributes := #[] }, { accessFlags := 4120, nameIndex := 46, descriptorIndex := 47, attributes := #[] }])
  fields := #[{ name := "HI_BYTE_SHIFT", type := .int, accessFlags := 26, slot := 0, constantValue := 0 }, { name := "LO_BYTE_SHIFT", type := .int, accessFlags := 26, slot := 1, constantValue := 0 }, { name := "MAX_LENGTH", type := .int, accessFlags := 24, slot := 2, constantValue := 0 }, { name := "$assertionsDisabled", type := .boolean, accessFlags := 4120, slot := 3, constantValue := 0 }]
  methods := #[k11m0, k11m1, k11m2, k11m3]
  instanceTypes := #[]
  staticTypes := #[.int, .int, .int, .boolean]
  resolved := Array.replicate 635 none
  statics := none }

def pool12 : Array CpInfo := pool [(1, .class_ 2), (0, u "java/lang/String"), (1, .class_ 6), (1, u "java/lang/Object"), (0, u "<init>"), (0, u "()V"), (0, .methodref 1 10), (0, .nameAndType 11 12), (0, u "checkIndex"), (0, u "(II)V"), (1, .class_ 16), (1, u "java/lang/StringLatin1"), (36, u "([BI)C"), (58, .methodref 1 113), (0, .nameAndType 7 114), (0, u "([BB)V"), (6, u "$assertionsDisabled"), (0, u "Z"), (8, .class_ 133), (1, u "java/util/Arrays"), (17, .string 152), (0, u ""), (43, u "newString"), (0, u "([BII)Ljava/lang/String;"), (23, .class_ 223), (1, u "java/lang/StringLatin1$LinesSpliterator"), (8, .methodref 131 233), (0, .nameAndType 234 235), (0, u "copyOfRange"), (0, u "([BII)[B"), (16, u "charAt"), (137, .class_ 391), (0, u "java/lang/StringLatin1$CharsSpliterator")] 3

def k12m0 : Method := { name := "<init>", desc := "()V", sig := { parameters := [], returnType := none }, accessFlags := 0, code := none }
def k12c1 : Code := { maxStack := 2, maxLocals := 2, code := jdk_43_method_2_code, exceptionTable := #[], attributes := #[] }
def k12m1 : Method := { name := "charAt", desc := "([BI)C", sig := { parameters := [(.array .byte), .int], returnType := some .char }, accessFlags := 9, code := some k12c1 }
def k12c2 : Code := { maxStack := 6, maxLocals := 3, code := jdk_43_method_47_code, exceptionTable := #[], attributes := #[] }
def k12m2 : Method := { name := "newString", desc := "([BII)Ljava/lang/String;", sig := { parameters := [(.array .byte), .int, .int], returnType := some (.object "java/lang/String") }, accessFlags := 9, code := some k12c2 }
/-- java/lang/StringLatin1 -/
def k12 : Class := { plain "java/lang/StringLatin1" (some 0) with
  accessFlags := 48
  interfaces := #[]
  cf := some (fileOf pool12 14 #[.nestMembers #[390, 221]] #[{ accessFlags := 0, nameIndex := 7, descriptorIndex := 8, attributes := #[] }, { accessFlags := 9, nameIndex := 252, descriptorIndex := 53, attributes := #[] }, { accessFlags := 9, nameIndex := 196, descriptorIndex := 197, attributes := #[] }] 48 4 #[] #[{ accessFlags := 4120, nameIndex := 121, descriptorIndex := 122, attributes := #[] }])
  fields := #[{ name := "$assertionsDisabled", type := .boolean, accessFlags := 4120, slot := 0, constantValue := 0 }]
  methods := #[k12m0, k12m1, k12m2]
  instanceTypes := #[]
  staticTypes := #[.boolean]
  resolved := Array.replicate 395 none
  statics := none }

def pool13 : Array CpInfo := pool [(2, .class_ 4), (1, u "java/lang/Object"), (0, u "<init>"), (0, u "()V"), (7, .class_ 16), (1, u "java/util/Arrays"), (57, .class_ 76), (1, u "java/util/Arrays$NaturalOrder"), (36, .class_ 115), (1, u "java/util/Arrays$LegacyMergeSort"), (1, u "Z"), (21, u "copyOfRange"), (10, .methodref 151 152), (0, .class_ 153), (0, .nameAndType 154 155), (0, u "java/lang/System"), (0, u "arraycopy"), (0, u "(Ljava/lang/Object;ILjava/lang/Object;II)V"), (148, .methodref 305 306), (0, .class_ 307), (0, .nameAndType 308 309), (0, u "java/lang/Math"), (0, u "min"), (0, u "(II)I"), (29, .methodref 14 340), (0, .nameAndType 341 342), (0, u "copyOfRangeByte"), (0, u "([BII)[B"), (0, .methodref 14 344), (0, .nameAndType 345 346), (0, u "checkLength"), (0, u "(II)V"), (28, .class_ 376), (0, u "java/util/Arrays$ArrayList"), (68, u "$assertionsDisabled"), (269, u "MIN_ARRAY_SORT_GRAN"), (0, u "I"), (2, u "INSERTIONSORT_THRESHOLD"), (255, .class_ 976), (0, u "java/util/Arrays$ArrayItr")] 52

def k13m0 : Method := { name := "<init>", desc := "()V", sig := { parameters := [], returnType := none }, accessFlags := 2, code := none }
def k13c1 : Code := { maxStack := 4, maxLocals := 2, code := jdk_65_method_131_code, exceptionTable := #[], attributes := #[] }
def k13m1 : Method := { name := "checkLength", desc := "(II)V", sig := { parameters := [.int, .int], returnType := none }, accessFlags := 10, code := some k13c1 }
def k13c2 : Code := { maxStack := 3, maxLocals := 3, code := jdk_65_method_132_code, exceptionTable := #[], attributes := #[] }
def k13m2 : Method := { name := "copyOfRange", desc := "([BII)[B", sig := { parameters := [(.array .byte), .int, .int], returnType := some (.array .byte) }, accessFlags := 9, code := some k13c2 }
def k13c3 : Code := { maxStack := 6, maxLocals := 5, code := jdk_65_method_133_code, exceptionTable := #[], attributes := #[] }
def k13m3 : Method := { name := "copyOfRangeByte", desc := "([BII)[B", sig := { parameters := [(.array .byte), .int, .int], returnType := some (.array .byte) }, accessFlags := 10, code := some k13c3 }
/-- java/util/Arrays -/
def k13 : Class := { plain "java/util/Arrays" (some 0) with
  accessFlags := 49
  interfaces := #[]
  cf := some (fileOf pool13 14 #[.nestMembers #[975, 375, 113, 74]] #[{ accessFlags := 2, nameIndex := 5, descriptorIndex := 6, attributes := #[] }, { accessFlags := 10, nameIndex := 345, descriptorIndex := 346, attributes := #[] }, { accessFlags := 9, nameIndex := 139, descriptorIndex := 342, attributes := #[] }, { accessFlags := 10, nameIndex := 341, descriptorIndex := 342, attributes := #[] }] 49 2 #[] #[{ accessFlags := 26, nameIndex := 715, descriptorIndex := 716, attributes := #[] }, { accessFlags := 26, nameIndex := 719, descriptorIndex := 716, attributes := #[] }, { accessFlags := 4120, nameIndex := 445, descriptorIndex := 117, attributes := #[] }])
  fields := #[{ name := "MIN_ARRAY_SORT_GRAN", type := .int, accessFlags := 26, slot := 0, constantValue := 0 }, { name := "INSERTIONSORT_THRESHOLD", type := .int, accessFlags := 26, slot := 1, constantValue := 0 }, { name := "$assertionsDisabled", type := .boolean, accessFlags := 4120, slot := 2, constantValue := 0 }]
  methods := #[k13m0, k13m1, k13m2, k13m3]
  instanceTypes := #[]
  staticTypes := #[.int, .int, .boolean]
  resolved := Array.replicate 1029 none
  statics := none }

def pool14 : Array CpInfo := pool [(2, .class_ 4), (1, u "java/lang/Object"), (0, u "<init>"), (0, u "()V"), (1, .class_ 10), (1, u "java/lang/System"), (0, u "allowSecurityManager"), (0, u "I"), (16, u "cons"), (0, u "Ljava/io/Console;"), (77, .class_ 110), (1, u "java/lang/System$CallersHolder"), (43, u "initialErrStream"), (0, u "Ljava/io/PrintStream;"), (19, u "security"), (0, u "Ljava/lang/SecurityManager;"), (31, .class_ 209), (0, u "java/lang/System$1"), (7, u "props"), (0, u "Ljava/util/Properties;"), (2, u "lineSeparator"), (0, u "Ljava/lang/String;"), (96, .class_ 321), (1, u "java/lang/System$LoggerFinder"), (5, .class_ 328), (0, u "java/lang/System$Logger"), (67, u "err"), (2, u "out"), (91, u "notSupportedJnuEncoding"), (15, u "in"), (17, u "initialIn"), (0, u "Ljava/io/InputStream;"), (35, u "bootLayer"), (0, u "Ljava/lang/ModuleLayer;"), (99, .class_ 664), (0, u "java/lang/System$2"), (9, u "NEVER"), (2, u "MAYBE"), (49, u "arraycopy"), (0, u "(Ljava/lang/Object;ILjava/lang/Object;II)V"), (72, .class_ 802), (0, u "java/lang/System$Logger$Level")] 31

def k14m0 : Method := { name := "<init>", desc := "()V", sig := { parameters := [], returnType := none }, accessFlags := 2, code := none }
def k14m1 : Method := { name := "arraycopy", desc := "(Ljava/lang/Object;ILjava/lang/Object;II)V", sig := { parameters := [(.object "java/lang/Object"), .int, (.object "java/lang/Object"), .int, .int], returnType := none }, accessFlags := 265, code := none }
/-- java/lang/System -/
def k14 : Class := { plain "java/lang/System" (some 0) with
  accessFlags := 49
  interfaces := #[]
  cf := some (fileOf pool14 8 #[.nestMembers #[319, 327, 801, 108, 663, 208]] #[{ accessFlags := 2, nameIndex := 5, descriptorIndex := 6, attributes := #[] }, { accessFlags := 265, nameIndex := 727, descriptorIndex := 728, attributes := #[] }] 49 2 #[] #[{ accessFlags := 25, nameIndex := 507, descriptorIndex := 526, attributes := #[] }, { accessFlags := 25, nameIndex := 399, descriptorIndex := 155, attributes := #[] }, { accessFlags := 25, nameIndex := 396, descriptorIndex := 155, attributes := #[] }, { accessFlags := 10, nameIndex := 525, descriptorIndex := 526, attributes := #[] }, { accessFlags := 26, nameIndex := 674, descriptorIndex := 12, attributes := #[] }, { accessFlags := 26, nameIndex := 677, descriptorIndex := 12, attributes := #[] }, { accessFlags := 10, nameIndex := 11, descriptorIndex := 12, attributes := #[] }, { accessFlags := 74, nameIndex := 175, descriptorIndex := 176, attributes := #[] }, { accessFlags := 10, nameIndex := 491, descriptorIndex := 222, attributes := #[] }, { accessFlags := 74, nameIndex := 29, descriptorIndex := 30, attributes := #[] }, { accessFlags := 74, nameIndex := 154, descriptorIndex := 155, attributes := #[] }, { accessFlags := 10, nameIndex := 217, descriptorIndex := 218, attributes := #[] }, { accessFlags := 10, nameIndex := 221, descriptorIndex := 222, attributes := #[] }, { accessFlags := 8, nameIndex := 562, descriptorIndex := 563, attributes := #[] }])
  fields := #[{ name := "in", type := (.object "java/io/InputStream"), accessFlags := 25, slot := 0, constantValue := 0 }, { name := "out", type := (.object "java/io/PrintStream"), accessFlags := 25, slot := 1, constantValue := 0 }, { name := "err", type := (.object "java/io/PrintStream"), accessFlags := 25, slot := 2, constantValue := 0 }, { name := "initialIn", type := (.object "java/io/InputStream"), accessFlags := 10, slot := 3, constantValue := 0 }, { name := "NEVER", type := .int, accessFlags := 26, slot := 4, constantValue := 0 }, { name := "MAYBE", type := .int, accessFlags := 26, slot := 5, constantValue := 0 }, { name := "allowSecurityManager", type := .int, accessFlags := 10, slot := 6, constantValue := 0 }, { name := "security", type := (.object "java/lang/SecurityManager"), accessFlags := 74, slot := 7, constantValue := 0 }, { name := "notSupportedJnuEncoding", type := (.object "java/lang/String"), accessFlags := 10, slot := 8, constantValue := 0 }, { name := "cons", type := (.object "java/io/Console"), accessFlags := 74, slot := 9, constantValue := 0 }, { name := "initialErrStream", type := (.object "java/io/PrintStream"), accessFlags := 74, slot := 10, constantValue := 0 }, { name := "props", type := (.object "java/util/Properties"), accessFlags := 10, slot := 11, constantValue := 0 }, { name := "lineSeparator", type := (.object "java/lang/String"), accessFlags := 10, slot := 12, constantValue := 0 }, { name := "bootLayer", type := (.object "java/lang/ModuleLayer"), accessFlags := 8, slot := 13, constantValue := 0 }]
  methods := #[k14m0, k14m1]
  instanceTypes := #[]
  staticTypes := #[(.object "java/io/InputStream"), (.object "java/io/PrintStream"), (.object "java/io/PrintStream"), (.object "java/io/InputStream"), .int, .int, .int, (.object "java/lang/SecurityManager"), (.object "java/lang/String"), (.object "java/io/Console"), (.object "java/io/PrintStream"), (.object "java/util/Properties"), (.object "java/lang/String"), (.object "java/lang/ModuleLayer")]
  resolved := Array.replicate 834 none
  statics := none }

def pool15 : Array CpInfo := pool [(9, u "<init>"), (6, .class_ 18), (1, u "java/lang/Object"), (0, u "()V"), (1, .class_ 23), (1, u "jdk/internal/util/ArraysSupport"), (0, u "LOG2_ARRAY_LONG_INDEX_SCALE"), (0, u "I"), (2, u "U"), (0, u "Ljdk/internal/misc/Unsafe;"), (8, u "BIG_ENDIAN"), (0, u "Z"), (8, u "LOG2_BYTE_BIT_SIZE"), (4, u "LOG2_ARRAY_INT_INDEX_SCALE"), (54, u "JLA"), (0, u "Ljdk/internal/access/JavaLangAccess;"), (11, u "LOG2_ARRAY_BOOLEAN_INDEX_SCALE"), (9, u "LOG2_ARRAY_BYTE_INDEX_SCALE"), (5, u "LOG2_ARRAY_CHAR_INDEX_SCALE"), (5, u "LOG2_ARRAY_SHORT_INDEX_SCALE"), (18, u "LOG2_ARRAY_FLOAT_INDEX_SCALE"), (24, u "LOG2_ARRAY_DOUBLE_INDEX_SCALE"), (89, u "T_BOOLEAN"), (2, u "T_CHAR"), (1, u "T_FLOAT"), (1, u "T_DOUBLE"), (1, u "T_BYTE"), (1, u "T_SHORT"), (1, u "T_INT"), (1, u "T_LONG"), (1, u "SOFT_MAX_ARRAY_LENGTH")] 83

def k15m0 : Method := { name := "<init>", desc := "()V", sig := { parameters := [], returnType := none }, accessFlags := 2, code := none }
/-- jdk/internal/util/ArraysSupport -/
def k15 : Class := { plain "jdk/internal/util/ArraysSupport" (some 0) with
  accessFlags := 33
  interfaces := #[]
  cf := some (fileOf pool15 21 #[] #[{ accessFlags := 2, nameIndex := 9, descriptorIndex := 19, attributes := #[] }] 33 16 #[] #[{ accessFlags := 24, nameIndex := 28, descriptorIndex := 29, attributes := #[] }, { accessFlags := 26, nameIndex := 38, descriptorIndex := 39, attributes := #[] }, { accessFlags := 25, nameIndex := 121, descriptorIndex := 25, attributes := #[] }, { accessFlags := 25, nameIndex := 131, descriptorIndex := 25, attributes := #[] }, { accessFlags := 25, nameIndex := 137, descriptorIndex := 25, attributes := #[] }, { accessFlags := 25, nameIndex := 143, descriptorIndex := 25, attributes := #[] }, { accessFlags := 25, nameIndex := 53, descriptorIndex := 25, attributes := #[] }, { accessFlags := 25, nameIndex := 24, descriptorIndex := 25, attributes := #[] }, { accessFlags := 25, nameIndex := 162, descriptorIndex := 25, attributes := #[] }, { accessFlags := 25, nameIndex := 187, descriptorIndex := 25, attributes := #[] }, { accessFlags := 26, nameIndex := 48, descriptorIndex := 25, attributes := #[] }, { accessFlags := 25, nameIndex := 277, descriptorIndex := 25, attributes := #[] }, { accessFlags := 25, nameIndex := 280, descriptorIndex := 25, attributes := #[] }, { accessFlags := 25, nameIndex := 282, descriptorIndex := 25, attributes := #[] }, { accessFlags := 25, nameIndex := 284, descriptorIndex := 25, attributes := #[] }, { accessFlags := 25, nameIndex := 286, descriptorIndex := 25, attributes := #[] }, { accessFlags := 25, nameIndex := 288, descriptorIndex := 25, attributes := #[] }, { accessFlags := 25, nameIndex := 290, descriptorIndex := 25, attributes := #[] }, { accessFlags := 25, nameIndex := 292, descriptorIndex := 25, attributes := #[] }, { accessFlags := 26, nameIndex := 108, descriptorIndex := 109, attributes := #[] }, { accessFlags := 25, nameIndex := 294, descriptorIndex := 25, attributes := #[] }])
  fields := #[{ name := "U", type := (.object "jdk/internal/misc/Unsafe"), accessFlags := 24, slot := 0, constantValue := 0 }, { name := "BIG_ENDIAN", type := .boolean, accessFlags := 26, slot := 1, constantValue := 0 }, { name := "LOG2_ARRAY_BOOLEAN_INDEX_SCALE", type := .int, accessFlags := 25, slot := 2, constantValue := 0 }, { name := "LOG2_ARRAY_BYTE_INDEX_SCALE", type := .int, accessFlags := 25, slot := 3, constantValue := 0 }, { name := "LOG2_ARRAY_CHAR_INDEX_SCALE", type := .int, accessFlags := 25, slot := 4, constantValue := 0 }, { name := "LOG2_ARRAY_SHORT_INDEX_SCALE", type := .int, accessFlags := 25, slot := 5, constantValue := 0 }, { name := "LOG2_ARRAY_INT_INDEX_SCALE", type := .int, accessFlags := 25, slot := 6, constantValue := 0 }, { name := "LOG2_ARRAY_LONG_INDEX_SCALE", type := .int, accessFlags := 25, slot := 7, constantValue := 0 }, { name := "LOG2_ARRAY_FLOAT_INDEX_SCALE", type := .int, accessFlags := 25, slot := 8, constantValue := 0 }, { name := "LOG2_ARRAY_DOUBLE_INDEX_SCALE", type := .int, accessFlags := 25, slot := 9, constantValue := 0 }, { name := "LOG2_BYTE_BIT_SIZE", type := .int, accessFlags := 26, slot := 10, constantValue := 0 }, { name := "T_BOOLEAN", type := .int, accessFlags := 25, slot := 11, constantValue := 0 }, { name := "T_CHAR", type := .int, accessFlags := 25, slot := 12, constantValue := 0 }, { name := "T_FLOAT", type := .int, accessFlags := 25, slot := 13, constantValue := 0 }, { name := "T_DOUBLE", type := .int, accessFlags := 25, slot := 14, constantValue := 0 }, { name := "T_BYTE", type := .int, accessFlags := 25, slot := 15, constantValue := 0 }, { name := "T_SHORT", type := .int, accessFlags := 25, slot := 16, constantValue := 0 }, { name := "T_INT", type := .int, accessFlags := 25, slot := 17, constantValue := 0 }, { name := "T_LONG", type := .int, accessFlags := 25, slot := 18, constantValue := 0 }, { name := "JLA", type := (.object "jdk/internal/access/JavaLangAccess"), accessFlags := 26, slot := 19, constantValue := 0 }, { name := "SOFT_MAX_ARRAY_LENGTH", type := .int, accessFlags := 25, slot := 20, constantValue := 0 }]
  methods := #[k15m0]
  instanceTypes := #[]
  staticTypes := #[(.object "jdk/internal/misc/Unsafe"), .boolean, .int, .int, .int, .int, .int, .int, .int, .int, .int, .int, .int, .int, .int, .int, .int, .int, .int, (.object "jdk/internal/access/JavaLangAccess"), .int]
  resolved := Array.replicate 378 none
  statics := none }

def pool16 : Array CpInfo := pool [(1, u "java/lang/Cloneable"), (0, .class_ 1), (0, u "java/lang/Object"), (0, .class_ 3)] 3

/-- java/lang/Cloneable -/
def k16 : Class := { plain "java/lang/Cloneable" (some 0) with
  accessFlags := 1537
  interfaces := #[]
  cf := some (fileOf pool16 2 #[] #[] 1537 4 #[] #[])
  fields := #[]
  methods := #[]
  instanceTypes := #[]
  staticTypes := #[]
  resolved := Array.replicate 8 none
  statics := none }

/-- the primitive byte -/
def k17 : Class := { plain "byte" none with kind := .primitive 'B', accessFlags := 0x411 }
/-- [B -/
def k18 : Class := { plain "[B" (some 0) with kind := .array 17 .byte, interfaces := #[16, 2], accessFlags := 1041 }

/-- the primitive char -/
def k19 : Class := { plain "char" none with kind := .primitive 'C', accessFlags := 0x411 }
/-- [C -/
def k20 : Class := { plain "[C" (some 0) with kind := .array 19 .char, interfaces := #[16, 2], accessFlags := 1041 }

/-- the primitive int -/
def k21 : Class := { plain "int" none with kind := .primitive 'I', accessFlags := 0x411 }
/-- [I -/
def k22 : Class := { plain "[I" (some 0) with kind := .array 21 .int, interfaces := #[16, 2], accessFlags := 1041 }

def heap : Heap := #[{ cls := 7, slots := #[.long 0, .int 1, .null, .int 0, .null, .int 0, .int 0], vm := .statics 7 },
  { cls := 10, slots := #[.null, .null, .null], vm := .statics 10 }]
def classes : Array Class := #[k0, k1, k2, k3, k4, k5, k6, k7, k8, k9, k10, k11, k12, k13, k14, k15, k16, k17, k18, k19, k20, k21, k22]
def interned : List (Array UInt16 × Addr) := []
def slotsUsed : Nat := 10
def theMethod : MethodId := ⟨1, 3⟩
def args0 : Array Value := #[.int 2, .int 66, .int 3, .int 1, .int 9]
def aboutOver (below : List Frame) : State where
  vm := { classes := classes, interned := interned.toArray }
  heap := heap
  slotsUsed := slotsUsed
  threads := #[{ frames := .invoking theMethod args0 :: below }]
def below0 : List Frame := [.native { method := ⟨0, 0⟩, args := #[] }]
def about1 : State := aboutOver below0
def p0 : Program := .bare "" "" ""
def e0 : Env := launch0.env 0 0 0
theorem w_frames : about1.frames = Frame.invoking theMethod args0 :: below0 := rfl
set_option maxRecDepth 65536 in
theorem w_args : argsFit about1.vm theMethod args0 = true := by decide +kernel
set_option maxRecDepth 65536 in
theorem w_heap : heapFits about1 = true := by decide +kernel
set_option maxRecDepth 65536 in
theorem w_runnable : about1.curStatus? = some .runnable := by decide +kernel
set_option maxRecDepth 65536 in
theorem w_alone : about1.alone = true := by decide +kernel
set_option maxRecDepth 65536 in
theorem w_named : about1.methodNamed? x = some theMethod := by decide +kernel
set_option maxRecDepth 65536 in
theorem w_hears : about1.hears theMethod below0 = true := by decide +kernel
set_option maxRecDepth 65536 in
theorem w_ripe : about1.ripe theMethod args0 below0 = true := by decide +kernel
theorem w_running : about1.status = .running := rfl
set_option maxRecDepth 65536 in
theorem w_room : about1.hasRoom e0.platform room_1 = true :=
  launch0.hasRoom_least _ room_1 (by decide +kernel) (by decide +kernel) (by decide +kernel) (by decide +kernel) (by decide +kernel) (by decide +kernel)
theorem allAtoms_all (ts : List Jvm.Cond) (a : Array Jvm.Value) (st : Jvm.State) : (allAtoms ts).before a st = ts.all (fun c => c.before a st) := by
  induction ts with
  | nil => rfl
  | cons c t ih =>
    show (Jvm.Cond.and c (allAtoms t)).before a st = _
    rw [Jvm.Cond.before_and, ih, List.all_cons]
def words1 : List Jvm.Cond := Jvm.Cond.code x code maxLocals ret :: tables_1
/-- a 'code' word, met by the world's own term for the bytes: nothing is compared byte by byte -/
theorem code_word {y : MethodName} {bytes : ByteArray} {mx : Nat} {rt : Option FieldType} {a : Array Value} {s : State} {m : MethodId} {meth : Method} {c : Code} (h1 : s.methodNamed? y = some m) (h2 : s.vm.method? m = some meth) (h3 : meth.code = some c) (h4 : c.code = bytes)
    (h5 : (c.maxLocals == mx && c.exceptionTable.isEmpty && decide (c.maxStack ≤ mostOperands) && decide (meth.sig.returnType = rt) && !meth.locks && decide (parseMethodDescriptor y.desc = some meth.sig)) = true) : (Jvm.Cond.code y bytes mx rt).before a s = true := by
  simp only [Bool.and_eq_true, beq_iff_eq, Bool.not_eq_true', decide_eq_true_eq] at h5
  obtain ⟨⟨⟨⟨⟨g1, g2⟩, g3⟩, g4⟩, g5⟩, g6⟩ := h5
  simp [Cond.before, Cond.holds, Cond.value, h1, h2, h3, h4, g1, g2, g3, g4, g5, g6]
def isCode : Jvm.Cond → Bool
  | .code _ _ _ _ => true
  | _ => false
theorem all_split {L : List Jvm.Cond} {P : Jvm.Cond → Bool} (h1 : L.all (fun c => isCode c || P c) = true) (h2 : ∀ c ∈ L.filter isCode, P c = true) : L.all P = true := by
  refine List.all_eq_true.mpr fun c hc => ?_
  have h := List.all_eq_true.mp h1 c hc
  rcases Bool.eq_false_or_eq_true (isCode c) with hi | hi
  · exact h2 c (List.mem_filter.mpr ⟨hc, hi⟩)
  · simpa [hi] using h
set_option maxRecDepth 65536 in
theorem w_c0 : (Jvm.Cond.code x code maxLocals ret).before args0 about1 = true := code_word (m := ⟨1, 3⟩) (meth := k1m3) (c := k1c3) (by decide +kernel) rfl rfl rfl (by decide +kernel)
set_option maxRecDepth 65536 in
theorem w_c1 : (Jvm.Cond.code ({ cls := "com/example/firer/firer/formats/XmlSpaceTrimPinLaw", name := "pick", desc := "(I)C" } : Jvm.MethodName) method_2_code (2 : Nat) (Option.some Jvm.ClassFile.FieldType.char)).before args0 about1 = true := code_word (m := ⟨1, 1⟩) (meth := k1m1) (c := k1c1) (by decide +kernel) rfl rfl rfl (by decide +kernel)
set_option maxRecDepth 65536 in
theorem w_c2 : (Jvm.Cond.code ({ cls := "java/lang/String", name := "<init>", desc := "([C)V" } : Jvm.MethodName) jdk_42_method_3_code (2 : Nat) (Option.none : Option Jvm.ClassFile.FieldType)).before args0 about1 = true := code_word (m := ⟨7, 1⟩) (meth := k7m1) (c := k7c1) (by decide +kernel) rfl rfl rfl (by decide +kernel)
set_option maxRecDepth 65536 in
theorem w_c3 : (Jvm.Cond.code ({ cls := "java/lang/String", name := "<init>", desc := "([CIILjava/lang/Void;)V" } : Jvm.MethodName) jdk_42_method_149_code (6 : Nat) (Option.none : Option Jvm.ClassFile.FieldType)).before args0 about1 = true := code_word (m := ⟨7, 5⟩) (meth := k7m5) (c := k7c5) (by decide +kernel) rfl rfl rfl (by decide +kernel)
set_option maxRecDepth 65536 in
theorem w_c4 : (Jvm.Cond.code ({ cls := "java/lang/Object", name := "<init>", desc := "()V" } : Jvm.MethodName) object_method_1_code (1 : Nat) (Option.none : Option Jvm.ClassFile.FieldType)).before args0 about1 = true := code_word (m := ⟨0, 0⟩) (meth := k0m0) (c := k0c0) (by decide +kernel) rfl rfl rfl (by decide +kernel)
set_option maxRecDepth 65536 in
theorem w_c5 : (Jvm.Cond.code ({ cls := "java/lang/Math", name := "max", desc := "(II)I" } : Jvm.MethodName) jdk_29_method_65_code (2 : Nat) (Option.some Jvm.ClassFile.FieldType.int)).before args0 about1 = true := code_word (m := ⟨8, 1⟩) (meth := k8m1) (c := k8c1) (by decide +kernel) rfl rfl rfl (by decide +kernel)
set_option maxRecDepth 65536 in
theorem w_c6 : (Jvm.Cond.code ({ cls := "com/example/firer/firer/formats/XmlSpace", name := "trim", desc := "(Ljava/lang/String;)Ljava/lang/String;" } : Jvm.MethodName) prog_35_method_2_code (3 : Nat) (Option.some (Jvm.ClassFile.FieldType.object "java/lang/String"))).before args0 about1 = true := code_word (m := ⟨9, 1⟩) (meth := k9m1) (c := k9c1) (by decide +kernel) rfl rfl rfl (by decide +kernel)
set_option maxRecDepth 65536 in
theorem w_c7 : (Jvm.Cond.code ({ cls := "java/lang/String", name := "length", desc := "()I" } : Jvm.MethodName) jdk_42_method_54_code (1 : Nat) (Option.some Jvm.ClassFile.FieldType.int)).before args0 about1 = true := code_word (m := ⟨7, 2⟩) (meth := k7m2) (c := k7c2) (by decide +kernel) rfl rfl rfl (by decide +kernel)
set_option maxRecDepth 65536 in
theorem w_c8 : (Jvm.Cond.code ({ cls := "java/lang/String", name := "coder", desc := "()B" } : Jvm.MethodName) jdk_42_method_152_code (1 : Nat) (Option.some Jvm.ClassFile.FieldType.byte)).before args0 about1 = true := code_word (m := ⟨7, 7⟩) (meth := k7m7) (c := k7c7) (by decide +kernel) rfl rfl rfl (by decide +kernel)
set_option maxRecDepth 65536 in
theorem w_c9 : (Jvm.Cond.code ({ cls := "java/lang/String", name := "substring", desc := "(II)Ljava/lang/String;" } : Jvm.MethodName) jdk_42_method_92_code (5 : Nat) (Option.some (Jvm.ClassFile.FieldType.object "java/lang/String"))).before args0 about1 = true := code_word (m := ⟨7, 4⟩) (meth := k7m4) (c := k7c4) (by decide +kernel) rfl rfl rfl (by decide +kernel)
set_option maxRecDepth 65536 in
theorem w_c10 : (Jvm.Cond.code ({ cls := "java/lang/String", name := "checkBoundsBeginEnd", desc := "(III)V" } : Jvm.MethodName) jdk_42_method_158_code (3 : Nat) (Option.none : Option Jvm.ClassFile.FieldType)).before args0 about1 = true := code_word (m := ⟨7, 10⟩) (meth := k7m10) (c := k7c10) (by decide +kernel) rfl rfl rfl (by decide +kernel)
set_option maxRecDepth 65536 in
theorem w_c11 : (Jvm.Cond.code ({ cls := "jdk/internal/util/Preconditions", name := "checkFromToIndex", desc := "(IIILjava/util/function/BiFunction;)I" } : Jvm.MethodName) jdk_41_method_12_code (4 : Nat) (Option.some Jvm.ClassFile.FieldType.int)).before args0 about1 = true := code_word (m := ⟨10, 2⟩) (meth := k10m2) (c := k10c2) (by decide +kernel) rfl rfl rfl (by decide +kernel)
set_option maxRecDepth 65536 in
theorem w_c12 : (Jvm.Cond.code ({ cls := "java/lang/StringUTF16", name := "compress", desc := "([CII)[B" } : Jvm.MethodName) jdk_52_method_16_code (6 : Nat) (Option.some (Jvm.ClassFile.FieldType.array Jvm.ClassFile.FieldType.byte))).before args0 about1 = true := code_word (m := ⟨11, 2⟩) (meth := k11m2) (c := k11c2) (by decide +kernel) rfl rfl rfl (by decide +kernel)
set_option maxRecDepth 65536 in
theorem w_c13 : (Jvm.Cond.code ({ cls := "java/lang/StringUTF16", name := "compress", desc := "([CI[BII)I" } : Jvm.MethodName) jdk_52_method_21_code (7 : Nat) (Option.some Jvm.ClassFile.FieldType.int)).before args0 about1 = true := code_word (m := ⟨11, 3⟩) (meth := k11m3) (c := k11c3) (by decide +kernel) rfl rfl rfl (by decide +kernel)
set_option maxRecDepth 65536 in
theorem w_c14 : (Jvm.Cond.code ({ cls := "java/lang/StringUTF16", name := "coderFromArrayLen", desc := "([BI)B" } : Jvm.MethodName) jdk_52_method_15_code (2 : Nat) (Option.some Jvm.ClassFile.FieldType.byte)).before args0 about1 = true := code_word (m := ⟨11, 1⟩) (meth := k11m1) (c := k11c1) (by decide +kernel) rfl rfl rfl (by decide +kernel)
set_option maxRecDepth 65536 in
theorem w_c15 : (Jvm.Cond.code ({ cls := "com/example/firer/firer/formats/XmlSpaceTrimPinLaw", name := "sp", desc := "(C)Z" } : Jvm.MethodName) method_3_code (1 : Nat) (Option.some Jvm.ClassFile.FieldType.boolean)).before args0 about1 = true := code_word (m := ⟨1, 2⟩) (meth := k1m2) (c := k1c2) (by decide +kernel) rfl rfl rfl (by decide +kernel)
set_option maxRecDepth 65536 in
theorem w_c16 : (Jvm.Cond.code ({ cls := "java/lang/String", name := "charAt", desc := "(I)C" } : Jvm.MethodName) jdk_42_method_56_code (2 : Nat) (Option.some Jvm.ClassFile.FieldType.char)).before args0 about1 = true := code_word (m := ⟨7, 3⟩) (meth := k7m3) (c := k7c3) (by decide +kernel) rfl rfl rfl (by decide +kernel)
set_option maxRecDepth 65536 in
theorem w_c17 : (Jvm.Cond.code ({ cls := "java/lang/String", name := "isLatin1", desc := "()Z" } : Jvm.MethodName) jdk_42_method_154_code (1 : Nat) (Option.some Jvm.ClassFile.FieldType.boolean)).before args0 about1 = true := code_word (m := ⟨7, 8⟩) (meth := k7m8) (c := k7c8) (by decide +kernel) rfl rfl rfl (by decide +kernel)
set_option maxRecDepth 65536 in
theorem w_c18 : (Jvm.Cond.code ({ cls := "java/lang/StringLatin1", name := "charAt", desc := "([BI)C" } : Jvm.MethodName) jdk_43_method_2_code (2 : Nat) (Option.some Jvm.ClassFile.FieldType.char)).before args0 about1 = true := code_word (m := ⟨12, 1⟩) (meth := k12m1) (c := k12c1) (by decide +kernel) rfl rfl rfl (by decide +kernel)
set_option maxRecDepth 65536 in
theorem w_c19 : (Jvm.Cond.code ({ cls := "java/lang/String", name := "checkIndex", desc := "(II)V" } : Jvm.MethodName) jdk_42_method_155_code (2 : Nat) (Option.none : Option Jvm.ClassFile.FieldType)).before args0 about1 = true := code_word (m := ⟨7, 9⟩) (meth := k7m9) (c := k7c9) (by decide +kernel) rfl rfl rfl (by decide +kernel)
set_option maxRecDepth 65536 in
theorem w_c20 : (Jvm.Cond.code ({ cls := "jdk/internal/util/Preconditions", name := "checkIndex", desc := "(IILjava/util/function/BiFunction;)I" } : Jvm.MethodName) jdk_41_method_11_code (3 : Nat) (Option.some Jvm.ClassFile.FieldType.int)).before args0 about1 = true := code_word (m := ⟨10, 1⟩) (meth := k10m1) (c := k10c1) (by decide +kernel) rfl rfl rfl (by decide +kernel)
set_option maxRecDepth 65536 in
theorem w_c21 : (Jvm.Cond.code ({ cls := "com/example/firer/firer/formats/XmlSpace", name := "isSpace", desc := "(C)Z" } : Jvm.MethodName) prog_35_method_3_code (1 : Nat) (Option.some Jvm.ClassFile.FieldType.boolean)).before args0 about1 = true := code_word (m := ⟨9, 2⟩) (meth := k9m2) (c := k9c2) (by decide +kernel) rfl rfl rfl (by decide +kernel)
set_option maxRecDepth 65536 in
theorem w_c22 : (Jvm.Cond.code ({ cls := "java/lang/StringLatin1", name := "newString", desc := "([BII)Ljava/lang/String;" } : Jvm.MethodName) jdk_43_method_47_code (3 : Nat) (Option.some (Jvm.ClassFile.FieldType.object "java/lang/String"))).before args0 about1 = true := code_word (m := ⟨12, 2⟩) (meth := k12m2) (c := k12c2) (by decide +kernel) rfl rfl rfl (by decide +kernel)
set_option maxRecDepth 65536 in
theorem w_c23 : (Jvm.Cond.code ({ cls := "java/util/Arrays", name := "copyOfRange", desc := "([BII)[B" } : Jvm.MethodName) jdk_65_method_132_code (3 : Nat) (Option.some (Jvm.ClassFile.FieldType.array Jvm.ClassFile.FieldType.byte))).before args0 about1 = true := code_word (m := ⟨13, 2⟩) (meth := k13m2) (c := k13c2) (by decide +kernel) rfl rfl rfl (by decide +kernel)
set_option maxRecDepth 65536 in
theorem w_c24 : (Jvm.Cond.code ({ cls := "java/util/Arrays", name := "copyOfRangeByte", desc := "([BII)[B" } : Jvm.MethodName) jdk_65_method_133_code (5 : Nat) (Option.some (Jvm.ClassFile.FieldType.array Jvm.ClassFile.FieldType.byte))).before args0 about1 = true := code_word (m := ⟨13, 3⟩) (meth := k13m3) (c := k13c3) (by decide +kernel) rfl rfl rfl (by decide +kernel)
set_option maxRecDepth 65536 in
theorem w_c25 : (Jvm.Cond.code ({ cls := "java/util/Arrays", name := "checkLength", desc := "(II)V" } : Jvm.MethodName) jdk_65_method_131_code (2 : Nat) (Option.none : Option Jvm.ClassFile.FieldType)).before args0 about1 = true := code_word (m := ⟨13, 1⟩) (meth := k13m1) (c := k13c1) (by decide +kernel) rfl rfl rfl (by decide +kernel)
set_option maxRecDepth 65536 in
theorem w_c26 : (Jvm.Cond.code ({ cls := "java/lang/Math", name := "min", desc := "(II)I" } : Jvm.MethodName) jdk_29_method_69_code (2 : Nat) (Option.some Jvm.ClassFile.FieldType.int)).before args0 about1 = true := code_word (m := ⟨8, 2⟩) (meth := k8m2) (c := k8c2) (by decide +kernel) rfl rfl rfl (by decide +kernel)
set_option maxRecDepth 65536 in
theorem w_c27 : (Jvm.Cond.code ({ cls := "java/lang/String", name := "<init>", desc := "([BB)V" } : Jvm.MethodName) jdk_42_method_151_code (3 : Nat) (Option.none : Option Jvm.ClassFile.FieldType)).before args0 about1 = true := code_word (m := ⟨7, 6⟩) (meth := k7m6) (c := k7c6) (by decide +kernel) rfl rfl rfl (by decide +kernel)
def codes1 : List Jvm.Cond := [Jvm.Cond.code x code maxLocals ret, Jvm.Cond.code ({ cls := "com/example/firer/firer/formats/XmlSpaceTrimPinLaw", name := "pick", desc := "(I)C" } : Jvm.MethodName) method_2_code (2 : Nat) (Option.some Jvm.ClassFile.FieldType.char), Jvm.Cond.code ({ cls := "java/lang/String", name := "<init>", desc := "([C)V" } : Jvm.MethodName) jdk_42_method_3_code (2 : Nat) (Option.none : Option Jvm.ClassFile.FieldType), Jvm.Cond.code ({ cls := "java/lang/String", name := "<init>", desc := "([CIILjava/lang/Void;)V" } : Jvm.MethodName) jdk_42_method_149_code (6 : Nat) (Option.none : Option Jvm.ClassFile.FieldType), Jvm.Cond.code ({ cls := "java/lang/Object", name := "<init>", desc := "()V" } : Jvm.MethodName) object_method_1_code (1 : Nat) (Option.none : Option Jvm.ClassFile.FieldType), Jvm.Cond.code ({ cls := "java/lang/Math", name := "max", desc := "(II)I" } : Jvm.MethodName) jdk_29_method_65_code (2 : Nat) (Option.some Jvm.ClassFile.FieldType.int), Jvm.Cond.code ({ cls := "com/example/firer/firer/formats/XmlSpace", name := "trim", desc := "(Ljava/lang/String;)Ljava/lang/String;" } : Jvm.MethodName) prog_35_method_2_code (3 : Nat) (Option.some (Jvm.ClassFile.FieldType.object "java/lang/String")), Jvm.Cond.code ({ cls := "java/lang/String", name := "length", desc := "()I" } : Jvm.MethodName) jdk_42_method_54_code (1 : Nat) (Option.some Jvm.ClassFile.FieldType.int), Jvm.Cond.code ({ cls := "java/lang/String", name := "coder", desc := "()B" } : Jvm.MethodName) jdk_42_method_152_code (1 : Nat) (Option.some Jvm.ClassFile.FieldType.byte), Jvm.Cond.code ({ cls := "java/lang/String", name := "substring", desc := "(II)Ljava/lang/String;" } : Jvm.MethodName) jdk_42_method_92_code (5 : Nat) (Option.some (Jvm.ClassFile.FieldType.object "java/lang/String")), Jvm.Cond.code ({ cls := "java/lang/String", name := "checkBoundsBeginEnd", desc := "(III)V" } : Jvm.MethodName) jdk_42_method_158_code (3 : Nat) (Option.none : Option Jvm.ClassFile.FieldType), Jvm.Cond.code ({ cls := "jdk/internal/util/Preconditions", name := "checkFromToIndex", desc := "(IIILjava/util/function/BiFunction;)I" } : Jvm.MethodName) jdk_41_method_12_code (4 : Nat) (Option.some Jvm.ClassFile.FieldType.int), Jvm.Cond.code ({ cls := "java/lang/StringUTF16", name := "compress", desc := "([CII)[B" } : Jvm.MethodName) jdk_52_method_16_code (6 : Nat) (Option.some (Jvm.ClassFile.FieldType.array Jvm.ClassFile.FieldType.byte)), Jvm.Cond.code ({ cls := "java/lang/StringUTF16", name := "compress", desc := "([CI[BII)I" } : Jvm.MethodName) jdk_52_method_21_code (7 : Nat) (Option.some Jvm.ClassFile.FieldType.int), Jvm.Cond.code ({ cls := "java/lang/StringUTF16", name := "coderFromArrayLen", desc := "([BI)B" } : Jvm.MethodName) jdk_52_method_15_code (2 : Nat) (Option.some Jvm.ClassFile.FieldType.byte), Jvm.Cond.code ({ cls := "com/example/firer/firer/formats/XmlSpaceTrimPinLaw", name := "sp", desc := "(C)Z" } : Jvm.MethodName) method_3_code (1 : Nat) (Option.some Jvm.ClassFile.FieldType.boolean), Jvm.Cond.code ({ cls := "java/lang/String", name := "charAt", desc := "(I)C" } : Jvm.MethodName) jdk_42_method_56_code (2 : Nat) (Option.some Jvm.ClassFile.FieldType.char), Jvm.Cond.code ({ cls := "java/lang/String", name := "isLatin1", desc := "()Z" } : Jvm.MethodName) jdk_42_method_154_code (1 : Nat) (Option.some Jvm.ClassFile.FieldType.boolean), Jvm.Cond.code ({ cls := "java/lang/StringLatin1", name := "charAt", desc := "([BI)C" } : Jvm.MethodName) jdk_43_method_2_code (2 : Nat) (Option.some Jvm.ClassFile.FieldType.char), Jvm.Cond.code ({ cls := "java/lang/String", name := "checkIndex", desc := "(II)V" } : Jvm.MethodName) jdk_42_method_155_code (2 : Nat) (Option.none : Option Jvm.ClassFile.FieldType), Jvm.Cond.code ({ cls := "jdk/internal/util/Preconditions", name := "checkIndex", desc := "(IILjava/util/function/BiFunction;)I" } : Jvm.MethodName) jdk_41_method_11_code (3 : Nat) (Option.some Jvm.ClassFile.FieldType.int), Jvm.Cond.code ({ cls := "com/example/firer/firer/formats/XmlSpace", name := "isSpace", desc := "(C)Z" } : Jvm.MethodName) prog_35_method_3_code (1 : Nat) (Option.some Jvm.ClassFile.FieldType.boolean), Jvm.Cond.code ({ cls := "java/lang/StringLatin1", name := "newString", desc := "([BII)Ljava/lang/String;" } : Jvm.MethodName) jdk_43_method_47_code (3 : Nat) (Option.some (Jvm.ClassFile.FieldType.object "java/lang/String")), Jvm.Cond.code ({ cls := "java/util/Arrays", name := "copyOfRange", desc := "([BII)[B" } : Jvm.MethodName) jdk_65_method_132_code (3 : Nat) (Option.some (Jvm.ClassFile.FieldType.array Jvm.ClassFile.FieldType.byte)), Jvm.Cond.code ({ cls := "java/util/Arrays", name := "copyOfRangeByte", desc := "([BII)[B" } : Jvm.MethodName) jdk_65_method_133_code (5 : Nat) (Option.some (Jvm.ClassFile.FieldType.array Jvm.ClassFile.FieldType.byte)), Jvm.Cond.code ({ cls := "java/util/Arrays", name := "checkLength", desc := "(II)V" } : Jvm.MethodName) jdk_65_method_131_code (2 : Nat) (Option.none : Option Jvm.ClassFile.FieldType), Jvm.Cond.code ({ cls := "java/lang/Math", name := "min", desc := "(II)I" } : Jvm.MethodName) jdk_29_method_69_code (2 : Nat) (Option.some Jvm.ClassFile.FieldType.int), Jvm.Cond.code ({ cls := "java/lang/String", name := "<init>", desc := "([BB)V" } : Jvm.MethodName) jdk_42_method_151_code (3 : Nat) (Option.none : Option Jvm.ClassFile.FieldType)]
set_option maxRecDepth 65536 in
theorem codes_eq : words1.filter isCode = codes1 := rfl
theorem w_codes : ∀ c ∈ words1.filter isCode, c.before args0 about1 = true := by
  rw [codes_eq]
  intro c hc
  simp only [codes1, List.mem_cons, List.not_mem_nil, or_false] at hc
  rcases hc with rfl | rfl | rfl | rfl | rfl | rfl | rfl | rfl | rfl | rfl | rfl | rfl | rfl | rfl | rfl | rfl | rfl | rfl | rfl | rfl | rfl | rfl | rfl | rfl | rfl | rfl | rfl | rfl
  · exact w_c0
  · exact w_c1
  · exact w_c2
  · exact w_c3
  · exact w_c4
  · exact w_c5
  · exact w_c6
  · exact w_c7
  · exact w_c8
  · exact w_c9
  · exact w_c10
  · exact w_c11
  · exact w_c12
  · exact w_c13
  · exact w_c14
  · exact w_c15
  · exact w_c16
  · exact w_c17
  · exact w_c18
  · exact w_c19
  · exact w_c20
  · exact w_c21
  · exact w_c22
  · exact w_c23
  · exact w_c24
  · exact w_c25
  · exact w_c26
  · exact w_c27
set_option maxRecDepth 65536 in
theorem w_t1 : (words1.take 24).all (fun c => isCode c || c.before args0 about1) = true := by decide +kernel
set_option maxRecDepth 65536 in
theorem w_t2 : ((words1.drop 24).take 24).all (fun c => isCode c || c.before args0 about1) = true := by decide +kernel
set_option maxRecDepth 65536 in
theorem w_t3 : (((words1.drop 24).drop 24).take 24).all (fun c => isCode c || c.before args0 about1) = true := by decide +kernel
set_option maxRecDepth 65536 in
theorem w_t4 : ((((words1.drop 24).drop 24).drop 24).take 24).all (fun c => isCode c || c.before args0 about1) = true := by decide +kernel
set_option maxRecDepth 65536 in
theorem w_t5 : (((((words1.drop 24).drop 24).drop 24).drop 24).take 24).all (fun c => isCode c || c.before args0 about1) = true := by decide +kernel
set_option maxRecDepth 65536 in
theorem w_t6 : (((((words1.drop 24).drop 24).drop 24).drop 24).drop 24).all (fun c => isCode c || c.before args0 about1) = true := by decide +kernel
theorem w_tables : (allAtoms (Jvm.Cond.code x code maxLocals ret :: tables_1)).before args0 about1 = true := by
  rw [allAtoms_all]
  show words1.all (fun c => c.before args0 about1) = true
  refine all_split ?_ w_codes
  rw [← List.take_append_drop 24 words1, List.all_append, w_t1, ← List.take_append_drop 24 (words1.drop 24), List.all_append, w_t2, ← List.take_append_drop 24 ((words1.drop 24).drop 24), List.all_append, w_t3, ← List.take_append_drop 24 (((words1.drop 24).drop 24).drop 24), List.all_append, w_t4, ← List.take_append_drop 24 ((((words1.drop 24).drop 24).drop 24).drop 24), List.all_append, w_t5, w_t6]
  rfl
set_option maxRecDepth 65536 in
theorem w_rest : rest_1_c.before args0 about1 = true := by decide +kernel
set_option maxRecDepth 65536 in
theorem w_case : (Jvm.Cond.and given_1 narrow_1).before args0 about1 = true := by decide +kernel
set_option maxRecDepth 65536 in
theorem w_consts : constsHeld consts_1 about1 := Jvm.Lit.constsHeldB_iff.mp (by decide +kernel)
theorem w_applies : (headSpec (Jvm.Cond.code x code maxLocals ret :: tables_1) room_1).applies x e0.platform about1 = true :=
  (Spec.applies_iff w_frames).mpr ⟨w_running, w_runnable, w_alone, w_named, w_hears, w_ripe, w_room, w_tables⟩
theorem atStart : AtStart classFile x code maxLocals ret World_1 tables_1 room_1 Calls_1 rest_1 Pre_1 launch0 p0 e0 about1 theMethod args0 below0 :=
  ⟨lists_1, trivial, launch0.admits_env _ _ _, launch0.least_env, fairChoices_fair.cas, fairChoices_fair.clock, w_frames, w_args, w_heap, w_applies, ⟨w_consts, trivial⟩, w_rest, w_case⟩
end start1
theorem witness_1 : WitnessClaimed_1 := ⟨start1.p0, start1.e0, start1.about1, start1.theMethod, start1.args0, start1.below0, start1.atStart⟩
end Jvm.Pilot.@@N@@
