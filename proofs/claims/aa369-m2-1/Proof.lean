import JvmDerived
import JvmDerived.Pilot.@@N@@Statement
import JvmDerived.Pilot.@@N@@Code
set_option linter.unusedVariables false
set_option linter.unusedSimpArgs false
namespace Jvm.GoKit
open Sem ClassFile Op Lib Jvm.Stand Jvm.Free Jvm.LawKit Jvm.RoadKit
abbrev GT := Heap → Nat → Nat → Nat → Array Slot → List Value → Prop
def Ctr (l : Launch) (Z : State) (y : MethodName) (bytes : ByteArray) (maxL : Nat) (ret : Option FieldType) (R : Room) (n0 : Nat) (as : Array Value) (h0 : Heap) (Q : Option Value → Heap → Prop) (wl : List Jvm.Cond) : Prop :=
  MetFree l y (head1 (Jvm.Cond.code y bytes maxL ret :: wl) R) (fun a U => a = as ∧ Z.Warmed39 U.vm ∧ U.heap = h0) (fun _ _ _ _ _ => True)
    (fun _ U o U' => ∃ v L, o = .returned v ∧ (Q v U'.heap ∧ Fr n0 L) ∧ FrameEnd U o U' L R.cells R.slots)
def Go (p : Program) (l : Launch) (e : Env) (R : Room) (s : State) (m : MethodId) (args : Array Value) (below : List Frame) (meth : Method) (c : Code) (n0 : Nat) (Q : Option Value → Heap → Prop) : GT :=
  fun h k n pc ls st => ∀ T locs, Stand p l e R s m args below meth c T locs k n → T.heap = h → Fr n0 locs →
    ∃ s₂ o, Steps p.tables e below (T.setTop (mkF m pc ls st)) s₂ ∧ s₂.status = .running ∧ Ended s₂ below o ∧ ∃ v L, o = .returned v ∧ (Q v s₂.heap ∧ Fr n0 L) ∧ FrameEnd s o s₂ L R.cells R.slots
def Cx (G : GT) (l : Launch) (Z : State) (a0 : Array Value) (ws : List Jvm.Cond) (R : Room) (y : MethodName) (bytes : ByteArray) (maxL : Nat) (ret : Option FieldType) (n0 : Nat) (Q : Option Value → Heap → Prop) : Prop :=
  ∃ p e s m args below meth c, p.tables.exec = Jvm.exec ∧ c.code = bytes ∧ c.maxLocals = maxL ∧ s.vm.findClass y.cls = some m.cls ∧ meth.name = y.name ∧ meth.sig.returnType = ret ∧ meth.locks = false ∧ Z.Warmed39 s.vm ∧ (∀ d ∈ ws, d.before a0 Z = true) ∧ G = Go p l e R s m args below meth c n0 Q
def lay : List Value → List Slot
  | [] => []
  | v :: vs => if v.category = 2 then .val v :: .second :: lay vs else .val v :: lay vs
theorem lay_fold : ∀ (vs : List Value) (acc : Array Slot), vs.foldl (fun (acc : Array Slot) v => if v.category = 2 then (acc.push (.val v)).push .second else acc.push (.val v)) acc = acc ++ (lay vs).toArray
  | [], acc => by simp [lay]
  | v :: vs, acc => by
    rw [List.foldl_cons, lay_fold vs, show lay (v :: vs) = (if v.category = 2 then Slot.val v :: .second :: lay vs else .val v :: lay vs) from rfl]
    split <;> simp
theorem entry_eq (m : MethodId) {as : Array Value} {maxL k : Nat} {L1 : List Slot} {ls : Array Slot} (h1 : lay as.toList = L1) (h2 : L1.length + k = maxL) (h3 : (L1 ++ List.replicate k Slot.unset).toArray = ls) : entryFrame m as maxL = mkF m 0 ls [] := by
  subst h1 h2 h3
  unfold entryFrame argsToLocals
  have e : as.foldl (init := #[]) (fun (acc : Array Slot) v => if v.category = 2 then (acc.push (.val v)).push .second else acc.push (.val v)) = (lay as.toList).toArray := by
    rw [← Array.foldl_toList, lay_fold]; simp
  simp only [e]
  simp [mkF]
theorem Ctr.of {l : Launch} {Z : State} {a0 : Array Value} {ws : List Jvm.Cond} {R : Room} {y : MethodName} {bytes : ByteArray} {maxL : Nat} {ret : Option FieldType} {n0 : Nat} {Q : Option Value → Heap → Prop} {as : Array Value} {h0 : Heap} {wl : List Jvm.Cond} {ls : Array Slot}
    (hn : plainFor y = true) (hw : ∀ d ∈ ws, d.before a0 Z = true) (he : ∀ m, entryFrame m as maxL = mkF m 0 ls []) (H : ∀ G, Cx G l Z a0 ws R y bytes maxL ret n0 Q → G h0 0 0 0 ls []) : Ctr l Z y bytes maxL ret R n0 as h0 Q wl := by
  refine MetFree.of_bodySF hn hisR ?_
  intro p e s m args below meth c s₁ Bd hml0 hP hK
  obtain ⟨rfl, hZ, hh⟩ := hP
  have X0 : Stand p l e R s m args below meth c s₁ [] 0 0 := Stand.of_body Bd
  have e0 : s₁.heap = h0 := by rw [← hh, Bd.state]; rfl
  obtain ⟨s₂, o, h1, h2, h3, h4⟩ := H (Go p l e R s m args below meth c n0 Q) ⟨p, e, s, m, args, below, meth, c, Bd.exec, Bd.bytes, hml0, findClass_of_methodNamed Bd.named, (name_of_methodNamed Bd.named Bd.method).1, Bd.returns, Bd.notSynchronized, hZ, hw, rfl⟩ s₁ [] X0 e0 (Fr.nil n0)
  exact ⟨s₂, o, castTop (he m) h1, h2, h3, h4⟩
theorem Ctr.mono {l : Launch} {Z : State} {R : Room} {y : MethodName} {bytes : ByteArray} {maxL : Nat} {ret : Option FieldType} {n0 : Nat} {Q Q' : Option Value → Heap → Prop} {as : Array Value} {h0 : Heap} {wl : List Jvm.Cond} (H : Ctr l Z y bytes maxL ret R n0 as h0 Q wl) (hq : ∀ v h, Q v h → Q' v h) : Ctr l Z y bytes maxL ret R n0 as h0 Q' wl := by
  intro p e ha hc hk s m args below hf happ hP hK
  obtain ⟨n, o, h1, h2, h3, v, L, h4, h5, h6⟩ := H p e ha hc hk s m args below hf happ hP hK
  exact ⟨n, o, h1, h2, h3, v, L, h4, ⟨hq _ _ h5.1, h5.2⟩, h6⟩
section Laws
variable {G : GT} {k' n' : Nat} {l : Launch} {Z : State} {a0 : Array Value} {ws : List Jvm.Cond} {R : Room} {y : MethodName} {bytes : ByteArray} {maxL : Nat} {ret : Option FieldType} {n0 : Nat} {Q : Option Value → Heap → Prop} {h : Heap} {k n pc pc' pc1 pc2 : Nat} {ls ls' : Array Slot} {st rest : List Value}
theorem lift {p : Program} {e : Env} {s : State} {m : MethodId} {args : Array Value} {below : List Frame} {meth : Method} {c : Code} {st' : List Value}
    (H : ∀ T locs, Stand p l e R s m args below meth c T locs k n → T.heap = h → ∀ target, Steps p.tables e below (T.setTop (mkF m pc' ls' st')) target → Steps p.tables e below (T.setTop (mkF m pc ls st)) target)
    (hr : Go p l e R s m args below meth c n0 Q h k n pc' ls' st') : Go p l e R s m args below meth c n0 Q h k n pc ls st := by
  intro T locs X hT hF
  obtain ⟨s₂, o, h1, h2⟩ := hr T locs X hT hF
  exact ⟨s₂, o, H T locs X hT s₂ h1, h2⟩
theorem word {d : Jvm.Cond} {i : Nat} (hw : ∀ d ∈ ws, d.before a0 Z = true) (hi : ws[i]? = some d) : d.before a0 Z = true := hw _ (List.mem_of_getElem? hi)
theorem Cx.iload (C : Cx G l Z a0 ws R y bytes maxL ret n0 Q) {j : Nat} {v : Int32} (hd : decode bytes pc = .ok (.iload j, 2)) (hl : ls[j]? = some (.val (.int v))) (hp : pc + 2 = pc') (hr : G h k n pc' ls (.int v :: st)) : G h k n pc ls (st) := by
  obtain ⟨p, e, s, m, args, below, meth, c, hx, hby, hml, hown, hnm, hret, hlk, hZ, hw, rfl⟩ := C
  subst hp
  exact lift (fun T locs X _ target q => XS.iload X.here hx rfl (hb hby hd) hl q) hr
theorem Cx.lload (C : Cx G l Z a0 ws R y bytes maxL ret n0 Q) {j : Nat} {v : Int64} (hd : decode bytes pc = .ok (.lload j, 2)) (hl : ls[j]? = some (.val (.long v))) (hp : pc + 2 = pc') (hr : G h k n pc' ls (.long v :: st)) : G h k n pc ls (st) := by
  obtain ⟨p, e, s, m, args, below, meth, c, hx, hby, hml, hown, hnm, hret, hlk, hZ, hw, rfl⟩ := C
  subst hp
  exact lift (fun T locs X _ target q => XT.lload X.here hx rfl (hb hby hd) hl q) hr
theorem Cx.aload (C : Cx G l Z a0 ws R y bytes maxL ret n0 Q) {j : Nat} {v : Addr} (hd : decode bytes pc = .ok (.aload j, 2)) (hl : ls[j]? = some (.val (.ref v))) (hp : pc + 2 = pc') (hr : G h k n pc' ls (.ref v :: st)) : G h k n pc ls (st) := by
  obtain ⟨p, e, s, m, args, below, meth, c, hx, hby, hml, hown, hnm, hret, hlk, hZ, hw, rfl⟩ := C
  subst hp
  exact lift (fun T locs X _ target q => XS.aload X.here hx rfl (hb hby hd) hl rfl q) hr
theorem Cx.istore (C : Cx G l Z a0 ws R y bytes maxL ret n0 Q) {j : Nat} {x : Int32} (hd : decode bytes pc = .ok (.istore j, 2)) (hl : storeLocals ls j (.int x) = some ls') (hp : pc + 2 = pc') (hr : G h k n pc' ls' (st)) : G h k n pc ls (.int x :: st) := by
  obtain ⟨p, e, s, m, args, below, meth, c, hx, hby, hml, hown, hnm, hret, hlk, hZ, hw, rfl⟩ := C
  subst hp
  exact lift (fun T locs X _ target q => XS.istore X.here hx rfl (hb hby hd) rfl hl q) hr
theorem Cx.lstore (C : Cx G l Z a0 ws R y bytes maxL ret n0 Q) {j : Nat} {x : Int64} (hd : decode bytes pc = .ok (.lstore j, 2)) (hl : storeLocals ls j (.long x) = some ls') (hp : pc + 2 = pc') (hr : G h k n pc' ls' (st)) : G h k n pc ls (.long x :: st) := by
  obtain ⟨p, e, s, m, args, below, meth, c, hx, hby, hml, hown, hnm, hret, hlk, hZ, hw, rfl⟩ := C
  subst hp
  exact lift (fun T locs X _ target q => XT.lstore X.here hx rfl (hb hby hd) rfl hl q) hr
theorem Cx.astore (C : Cx G l Z a0 ws R y bytes maxL ret n0 Q) {j : Nat} {x : Addr} (hd : decode bytes pc = .ok (.astore j, 2)) (hl : storeLocals ls j (.ref x) = some ls') (hp : pc + 2 = pc') (hr : G h k n pc' ls' (st)) : G h k n pc ls (.ref x :: st) := by
  obtain ⟨p, e, s, m, args, below, meth, c, hx, hby, hml, hown, hnm, hret, hlk, hZ, hw, rfl⟩ := C
  subst hp
  exact lift (fun T locs X _ target q => XS.astore X.here hx rfl (hb hby hd) rfl rfl hl q) hr
theorem Cx.iloadN (C : Cx G l Z a0 ws R y bytes maxL ret n0 Q) {j : Fin 4} {v : Int32} (hd : decode bytes pc = .ok (.iload_n j, 1)) (hl : ls[j.val]? = some (.val (.int v))) (hp : pc + 1 = pc') (hr : G h k n pc' ls (.int v :: st)) : G h k n pc ls (st) := by
  obtain ⟨p, e, s, m, args, below, meth, c, hx, hby, hml, hown, hnm, hret, hlk, hZ, hw, rfl⟩ := C
  subst hp
  exact lift (fun T locs X _ target q => XS.iloadN X.here hx rfl (hb hby hd) hl q) hr
theorem Cx.lloadN (C : Cx G l Z a0 ws R y bytes maxL ret n0 Q) {j : Fin 4} {v : Int64} (hd : decode bytes pc = .ok (.lload_n j, 1)) (hl : ls[j.val]? = some (.val (.long v))) (hp : pc + 1 = pc') (hr : G h k n pc' ls (.long v :: st)) : G h k n pc ls (st) := by
  obtain ⟨p, e, s, m, args, below, meth, c, hx, hby, hml, hown, hnm, hret, hlk, hZ, hw, rfl⟩ := C
  subst hp
  exact lift (fun T locs X _ target q => XT.lloadN X.here hx rfl (hb hby hd) hl q) hr
theorem Cx.aloadN (C : Cx G l Z a0 ws R y bytes maxL ret n0 Q) {j : Fin 4} {v : Addr} (hd : decode bytes pc = .ok (.aload_n j, 1)) (hl : ls[j.val]? = some (.val (.ref v))) (hp : pc + 1 = pc') (hr : G h k n pc' ls (.ref v :: st)) : G h k n pc ls (st) := by
  obtain ⟨p, e, s, m, args, below, meth, c, hx, hby, hml, hown, hnm, hret, hlk, hZ, hw, rfl⟩ := C
  subst hp
  exact lift (fun T locs X _ target q => XS.aloadN X.here hx rfl (hb hby hd) hl rfl q) hr
theorem Cx.istoreN (C : Cx G l Z a0 ws R y bytes maxL ret n0 Q) {j : Fin 4} {x : Int32} (hd : decode bytes pc = .ok (.istore_n j, 1)) (hl : storeLocals ls j.val (.int x) = some ls') (hp : pc + 1 = pc') (hr : G h k n pc' ls' (st)) : G h k n pc ls (.int x :: st) := by
  obtain ⟨p, e, s, m, args, below, meth, c, hx, hby, hml, hown, hnm, hret, hlk, hZ, hw, rfl⟩ := C
  subst hp
  exact lift (fun T locs X _ target q => XS.istoreN X.here hx rfl (hb hby hd) rfl hl q) hr
theorem Cx.lstoreN (C : Cx G l Z a0 ws R y bytes maxL ret n0 Q) {j : Fin 4} {x : Int64} (hd : decode bytes pc = .ok (.lstore_n j, 1)) (hl : storeLocals ls j.val (.long x) = some ls') (hp : pc + 1 = pc') (hr : G h k n pc' ls' (st)) : G h k n pc ls (.long x :: st) := by
  obtain ⟨p, e, s, m, args, below, meth, c, hx, hby, hml, hown, hnm, hret, hlk, hZ, hw, rfl⟩ := C
  subst hp
  exact lift (fun T locs X _ target q => XT.lstoreN X.here hx rfl (hb hby hd) rfl hl q) hr
theorem Cx.astoreN (C : Cx G l Z a0 ws R y bytes maxL ret n0 Q) {j : Fin 4} {x : Addr} (hd : decode bytes pc = .ok (.astore_n j, 1)) (hl : storeLocals ls j.val (.ref x) = some ls') (hp : pc + 1 = pc') (hr : G h k n pc' ls' (st)) : G h k n pc ls (.ref x :: st) := by
  obtain ⟨p, e, s, m, args, below, meth, c, hx, hby, hml, hown, hnm, hret, hlk, hZ, hw, rfl⟩ := C
  subst hp
  exact lift (fun T locs X _ target q => XS.astoreN X.here hx rfl (hb hby hd) rfl rfl hl q) hr
theorem Cx.iconst (C : Cx G l Z a0 ws R y bytes maxL ret n0 Q) {i : Int} {v : Int32} (hd : decode bytes pc = .ok (.iconst i, 1)) (hv : Int32.ofInt i = v) (hp : pc + 1 = pc') (hr : G h k n pc' ls (.int v :: st)) : G h k n pc ls (st) := by
  obtain ⟨p, e, s, m, args, below, meth, c, hx, hby, hml, hown, hnm, hret, hlk, hZ, hw, rfl⟩ := C
  subst hp
  exact lift (fun T locs X _ target q => XT.iconstV X.here hx rfl v (hb hby hd) hv q) hr
theorem Cx.bipush (C : Cx G l Z a0 ws R y bytes maxL ret n0 Q) {i : Int} {v : Int32} (hd : decode bytes pc = .ok (.bipush i, 2)) (hv : (Int8.ofInt i).toInt32 = v) (hp : pc + 2 = pc') (hr : G h k n pc' ls (.int v :: st)) : G h k n pc ls (st) := by
  obtain ⟨p, e, s, m, args, below, meth, c, hx, hby, hml, hown, hnm, hret, hlk, hZ, hw, rfl⟩ := C
  subst hp
  exact lift (fun T locs X _ target q => XT.bipushV X.here hx rfl v (hb hby hd) hv q) hr
theorem Cx.sipush (C : Cx G l Z a0 ws R y bytes maxL ret n0 Q) {i : Int} {v : Int32} (hd : decode bytes pc = .ok (.sipush i, 3)) (hv : (Int16.ofInt i).toInt32 = v) (hp : pc + 3 = pc') (hr : G h k n pc' ls (.int v :: st)) : G h k n pc ls (st) := by
  obtain ⟨p, e, s, m, args, below, meth, c, hx, hby, hml, hown, hnm, hret, hlk, hZ, hw, rfl⟩ := C
  subst hp
  exact lift (fun T locs X _ target q => XT.sipushV X.here hx rfl v (hb hby hd) hv q) hr
theorem Cx.lconst (C : Cx G l Z a0 ws R y bytes maxL ret n0 Q) {i : Fin 2} {v : Int64} (hd : decode bytes pc = .ok (.lconst i, 1)) (hv : Int64.ofNat i = v) (hp : pc + 1 = pc') (hr : G h k n pc' ls (.long v :: st)) : G h k n pc ls (st) := by
  obtain ⟨p, e, s, m, args, below, meth, c, hx, hby, hml, hown, hnm, hret, hlk, hZ, hw, rfl⟩ := C
  subst hp
  exact lift (fun T locs X _ target q => XT.lconstV X.here hx rfl v (hb hby hd) hv q) hr
theorem Cx.dconst0 (C : Cx G l Z a0 ws R y bytes maxL ret n0 Q)  (hd : decode bytes pc = .ok (.dconst 0, 1))  (hp : pc + 1 = pc') (hr : G h k n pc' ls (.double FP.dconst0 :: st)) : G h k n pc ls (st) := by
  obtain ⟨p, e, s, m, args, below, meth, c, hx, hby, hml, hown, hnm, hret, hlk, hZ, hw, rfl⟩ := C
  subst hp
  exact lift (fun T locs X _ target q => XS.dconst0 X.here hx rfl (hb hby hd) rfl q) hr
theorem Cx.dconst1 (C : Cx G l Z a0 ws R y bytes maxL ret n0 Q)  (hd : decode bytes pc = .ok (.dconst 1, 1))  (hp : pc + 1 = pc') (hr : G h k n pc' ls (.double FP.dconst1 :: st)) : G h k n pc ls (st) := by
  obtain ⟨p, e, s, m, args, below, meth, c, hx, hby, hml, hown, hnm, hret, hlk, hZ, hw, rfl⟩ := C
  subst hp
  exact lift (fun T locs X _ target q => XS.dconst1 X.here hx rfl (hb hby hd) rfl q) hr
theorem Cx.iadd (C : Cx G l Z a0 ws R y bytes maxL ret n0 Q) {a b : Int32} (hd : decode bytes pc = .ok (.iadd, 1))  (hp : pc + 1 = pc') (hr : G h k n pc' ls (.int (a + b) :: st)) : G h k n pc ls (.int b :: .int a :: st) := by
  obtain ⟨p, e, s, m, args, below, meth, c, hx, hby, hml, hown, hnm, hret, hlk, hZ, hw, rfl⟩ := C
  subst hp
  exact lift (fun T locs X _ target q => XS.iadd X.here hx rfl (hb hby hd) rfl q) hr
theorem Cx.isub (C : Cx G l Z a0 ws R y bytes maxL ret n0 Q) {a b : Int32} (hd : decode bytes pc = .ok (.isub, 1))  (hp : pc + 1 = pc') (hr : G h k n pc' ls (.int (a - b) :: st)) : G h k n pc ls (.int b :: .int a :: st) := by
  obtain ⟨p, e, s, m, args, below, meth, c, hx, hby, hml, hown, hnm, hret, hlk, hZ, hw, rfl⟩ := C
  subst hp
  exact lift (fun T locs X _ target q => XS.isub X.here hx rfl (hb hby hd) rfl q) hr
theorem Cx.imul (C : Cx G l Z a0 ws R y bytes maxL ret n0 Q) {a b : Int32} (hd : decode bytes pc = .ok (.imul, 1))  (hp : pc + 1 = pc') (hr : G h k n pc' ls (.int (a * b) :: st)) : G h k n pc ls (.int b :: .int a :: st) := by
  obtain ⟨p, e, s, m, args, below, meth, c, hx, hby, hml, hown, hnm, hret, hlk, hZ, hw, rfl⟩ := C
  subst hp
  exact lift (fun T locs X _ target q => XS.imul X.here hx rfl (hb hby hd) rfl q) hr
theorem Cx.iand (C : Cx G l Z a0 ws R y bytes maxL ret n0 Q) {a b : Int32} (hd : decode bytes pc = .ok (.iand, 1))  (hp : pc + 1 = pc') (hr : G h k n pc' ls (.int (a &&& b) :: st)) : G h k n pc ls (.int b :: .int a :: st) := by
  obtain ⟨p, e, s, m, args, below, meth, c, hx, hby, hml, hown, hnm, hret, hlk, hZ, hw, rfl⟩ := C
  subst hp
  exact lift (fun T locs X _ target q => XS.iand X.here hx rfl (hb hby hd) rfl q) hr
theorem Cx.ior (C : Cx G l Z a0 ws R y bytes maxL ret n0 Q) {a b : Int32} (hd : decode bytes pc = .ok (.ior, 1))  (hp : pc + 1 = pc') (hr : G h k n pc' ls (.int (a ||| b) :: st)) : G h k n pc ls (.int b :: .int a :: st) := by
  obtain ⟨p, e, s, m, args, below, meth, c, hx, hby, hml, hown, hnm, hret, hlk, hZ, hw, rfl⟩ := C
  subst hp
  exact lift (fun T locs X _ target q => XT.ior X.here hx rfl (hb hby hd) rfl q) hr
theorem Cx.ixor (C : Cx G l Z a0 ws R y bytes maxL ret n0 Q) {a b : Int32} (hd : decode bytes pc = .ok (.ixor, 1))  (hp : pc + 1 = pc') (hr : G h k n pc' ls (.int (a ^^^ b) :: st)) : G h k n pc ls (.int b :: .int a :: st) := by
  obtain ⟨p, e, s, m, args, below, meth, c, hx, hby, hml, hown, hnm, hret, hlk, hZ, hw, rfl⟩ := C
  subst hp
  exact lift (fun T locs X _ target q => XT.ixor X.here hx rfl (hb hby hd) rfl q) hr
theorem Cx.ladd (C : Cx G l Z a0 ws R y bytes maxL ret n0 Q) {a b : Int64} (hd : decode bytes pc = .ok (.ladd, 1))  (hp : pc + 1 = pc') (hr : G h k n pc' ls (.long (a + b) :: st)) : G h k n pc ls (.long b :: .long a :: st) := by
  obtain ⟨p, e, s, m, args, below, meth, c, hx, hby, hml, hown, hnm, hret, hlk, hZ, hw, rfl⟩ := C
  subst hp
  exact lift (fun T locs X _ target q => XT.ladd X.here hx rfl (hb hby hd) rfl q) hr
theorem Cx.lsub (C : Cx G l Z a0 ws R y bytes maxL ret n0 Q) {a b : Int64} (hd : decode bytes pc = .ok (.lsub, 1))  (hp : pc + 1 = pc') (hr : G h k n pc' ls (.long (a - b) :: st)) : G h k n pc ls (.long b :: .long a :: st) := by
  obtain ⟨p, e, s, m, args, below, meth, c, hx, hby, hml, hown, hnm, hret, hlk, hZ, hw, rfl⟩ := C
  subst hp
  exact lift (fun T locs X _ target q => XT.lsub X.here hx rfl (hb hby hd) rfl q) hr
theorem Cx.lmul (C : Cx G l Z a0 ws R y bytes maxL ret n0 Q) {a b : Int64} (hd : decode bytes pc = .ok (.lmul, 1))  (hp : pc + 1 = pc') (hr : G h k n pc' ls (.long (a * b) :: st)) : G h k n pc ls (.long b :: .long a :: st) := by
  obtain ⟨p, e, s, m, args, below, meth, c, hx, hby, hml, hown, hnm, hret, hlk, hZ, hw, rfl⟩ := C
  subst hp
  exact lift (fun T locs X _ target q => XT.lmul X.here hx rfl (hb hby hd) rfl q) hr
theorem Cx.land (C : Cx G l Z a0 ws R y bytes maxL ret n0 Q) {a b : Int64} (hd : decode bytes pc = .ok (.land, 1))  (hp : pc + 1 = pc') (hr : G h k n pc' ls (.long (a &&& b) :: st)) : G h k n pc ls (.long b :: .long a :: st) := by
  obtain ⟨p, e, s, m, args, below, meth, c, hx, hby, hml, hown, hnm, hret, hlk, hZ, hw, rfl⟩ := C
  subst hp
  exact lift (fun T locs X _ target q => XT.land X.here hx rfl (hb hby hd) rfl q) hr
theorem Cx.lor (C : Cx G l Z a0 ws R y bytes maxL ret n0 Q) {a b : Int64} (hd : decode bytes pc = .ok (.lor, 1))  (hp : pc + 1 = pc') (hr : G h k n pc' ls (.long (a ||| b) :: st)) : G h k n pc ls (.long b :: .long a :: st) := by
  obtain ⟨p, e, s, m, args, below, meth, c, hx, hby, hml, hown, hnm, hret, hlk, hZ, hw, rfl⟩ := C
  subst hp
  exact lift (fun T locs X _ target q => XT.lor X.here hx rfl (hb hby hd) rfl q) hr
theorem Cx.lxor (C : Cx G l Z a0 ws R y bytes maxL ret n0 Q) {a b : Int64} (hd : decode bytes pc = .ok (.lxor, 1))  (hp : pc + 1 = pc') (hr : G h k n pc' ls (.long (a ^^^ b) :: st)) : G h k n pc ls (.long b :: .long a :: st) := by
  obtain ⟨p, e, s, m, args, below, meth, c, hx, hby, hml, hown, hnm, hret, hlk, hZ, hw, rfl⟩ := C
  subst hp
  exact lift (fun T locs X _ target q => XT.lxor X.here hx rfl (hb hby hd) rfl q) hr
theorem Cx.ishl (C : Cx G l Z a0 ws R y bytes maxL ret n0 Q) {a b : Int32} (hd : decode bytes pc = .ok (.ishl, 1))  (hp : pc + 1 = pc') (hr : G h k n pc' ls (.int (a <<< (b &&& 31)) :: st)) : G h k n pc ls (.int b :: .int a :: st) := by
  obtain ⟨p, e, s, m, args, below, meth, c, hx, hby, hml, hown, hnm, hret, hlk, hZ, hw, rfl⟩ := C
  subst hp
  exact lift (fun T locs X _ target q => XT.ishl X.here hx rfl (hb hby hd) rfl q) hr
theorem Cx.ishr (C : Cx G l Z a0 ws R y bytes maxL ret n0 Q) {a b : Int32} (hd : decode bytes pc = .ok (.ishr, 1))  (hp : pc + 1 = pc') (hr : G h k n pc' ls (.int (a >>> (b &&& 31)) :: st)) : G h k n pc ls (.int b :: .int a :: st) := by
  obtain ⟨p, e, s, m, args, below, meth, c, hx, hby, hml, hown, hnm, hret, hlk, hZ, hw, rfl⟩ := C
  subst hp
  exact lift (fun T locs X _ target q => XT.ishr X.here hx rfl (hb hby hd) rfl q) hr
theorem Cx.iushr (C : Cx G l Z a0 ws R y bytes maxL ret n0 Q) {a b : Int32} (hd : decode bytes pc = .ok (.iushr, 1))  (hp : pc + 1 = pc') (hr : G h k n pc' ls (.int (XT.ushr a b) :: st)) : G h k n pc ls (.int b :: .int a :: st) := by
  obtain ⟨p, e, s, m, args, below, meth, c, hx, hby, hml, hown, hnm, hret, hlk, hZ, hw, rfl⟩ := C
  subst hp
  exact lift (fun T locs X _ target q => XT.iushr X.here hx rfl (hb hby hd) rfl q) hr
theorem Cx.lshl (C : Cx G l Z a0 ws R y bytes maxL ret n0 Q) {a : Int64} {b : Int32} (hd : decode bytes pc = .ok (.lshl, 1))  (hp : pc + 1 = pc') (hr : G h k n pc' ls (.long (a <<< (b.toInt64 &&& 63)) :: st)) : G h k n pc ls (.int b :: .long a :: st) := by
  obtain ⟨p, e, s, m, args, below, meth, c, hx, hby, hml, hown, hnm, hret, hlk, hZ, hw, rfl⟩ := C
  subst hp
  exact lift (fun T locs X _ target q => XT.lshl X.here hx rfl (hb hby hd) rfl q) hr
theorem Cx.lshr (C : Cx G l Z a0 ws R y bytes maxL ret n0 Q) {a : Int64} {b : Int32} (hd : decode bytes pc = .ok (.lshr, 1))  (hp : pc + 1 = pc') (hr : G h k n pc' ls (.long (a >>> (b.toInt64 &&& 63)) :: st)) : G h k n pc ls (.int b :: .long a :: st) := by
  obtain ⟨p, e, s, m, args, below, meth, c, hx, hby, hml, hown, hnm, hret, hlk, hZ, hw, rfl⟩ := C
  subst hp
  exact lift (fun T locs X _ target q => XT.lshr X.here hx rfl (hb hby hd) rfl q) hr
theorem Cx.lushr (C : Cx G l Z a0 ws R y bytes maxL ret n0 Q) {a : Int64} {b : Int32} (hd : decode bytes pc = .ok (.lushr, 1))  (hp : pc + 1 = pc') (hr : G h k n pc' ls (.long (XT.ushrL a b) :: st)) : G h k n pc ls (.int b :: .long a :: st) := by
  obtain ⟨p, e, s, m, args, below, meth, c, hx, hby, hml, hown, hnm, hret, hlk, hZ, hw, rfl⟩ := C
  subst hp
  exact lift (fun T locs X _ target q => XT.lushr X.here hx rfl (hb hby hd) rfl q) hr
theorem Cx.ineg (C : Cx G l Z a0 ws R y bytes maxL ret n0 Q) {a : Int32} (hd : decode bytes pc = .ok (.ineg, 1))  (hp : pc + 1 = pc') (hr : G h k n pc' ls (.int (-a) :: st)) : G h k n pc ls (.int a :: st) := by
  obtain ⟨p, e, s, m, args, below, meth, c, hx, hby, hml, hown, hnm, hret, hlk, hZ, hw, rfl⟩ := C
  subst hp
  exact lift (fun T locs X _ target q => XS.ineg X.here hx rfl (hb hby hd) rfl q) hr
theorem Cx.i2l (C : Cx G l Z a0 ws R y bytes maxL ret n0 Q) {a : Int32} (hd : decode bytes pc = .ok (.i2l, 1))  (hp : pc + 1 = pc') (hr : G h k n pc' ls (.long a.toInt64 :: st)) : G h k n pc ls (.int a :: st) := by
  obtain ⟨p, e, s, m, args, below, meth, c, hx, hby, hml, hown, hnm, hret, hlk, hZ, hw, rfl⟩ := C
  subst hp
  exact lift (fun T locs X _ target q => XT.i2l X.here hx rfl (hb hby hd) rfl q) hr
theorem Cx.l2i (C : Cx G l Z a0 ws R y bytes maxL ret n0 Q) {a : Int64} (hd : decode bytes pc = .ok (.l2i, 1))  (hp : pc + 1 = pc') (hr : G h k n pc' ls (.int a.toInt32 :: st)) : G h k n pc ls (.long a :: st) := by
  obtain ⟨p, e, s, m, args, below, meth, c, hx, hby, hml, hown, hnm, hret, hlk, hZ, hw, rfl⟩ := C
  subst hp
  exact lift (fun T locs X _ target q => XT.l2i X.here hx rfl (hb hby hd) rfl q) hr
theorem Cx.i2b (C : Cx G l Z a0 ws R y bytes maxL ret n0 Q) {a : Int32} (hd : decode bytes pc = .ok (.i2b, 1))  (hp : pc + 1 = pc') (hr : G h k n pc' ls (.int a.toInt8.toInt32 :: st)) : G h k n pc ls (.int a :: st) := by
  obtain ⟨p, e, s, m, args, below, meth, c, hx, hby, hml, hown, hnm, hret, hlk, hZ, hw, rfl⟩ := C
  subst hp
  exact lift (fun T locs X _ target q => XT.i2b X.here hx rfl (hb hby hd) rfl q) hr
theorem Cx.i2c (C : Cx G l Z a0 ws R y bytes maxL ret n0 Q) {a : Int32} (hd : decode bytes pc = .ok (.i2c, 1))  (hp : pc + 1 = pc') (hr : G h k n pc' ls (.int a.toUInt32.toUInt16.toUInt32.toInt32 :: st)) : G h k n pc ls (.int a :: st) := by
  obtain ⟨p, e, s, m, args, below, meth, c, hx, hby, hml, hown, hnm, hret, hlk, hZ, hw, rfl⟩ := C
  subst hp
  exact lift (fun T locs X _ target q => XT.i2c X.here hx rfl (hb hby hd) rfl q) hr
theorem Cx.lcmp (C : Cx G l Z a0 ws R y bytes maxL ret n0 Q) {a b : Int64} (hd : decode bytes pc = .ok (.lcmp, 1))  (hp : pc + 1 = pc') (hr : G h k n pc' ls (.int (XT.cmpL a b) :: st)) : G h k n pc ls (.long b :: .long a :: st) := by
  obtain ⟨p, e, s, m, args, below, meth, c, hx, hby, hml, hown, hnm, hret, hlk, hZ, hw, rfl⟩ := C
  subst hp
  exact lift (fun T locs X _ target q => XT.lcmp X.here hx rfl (hb hby hd) rfl q) hr
theorem Cx.dup (C : Cx G l Z a0 ws R y bytes maxL ret n0 Q) {x : Value} (hd : decode bytes pc = .ok (.dup, 1)) (hc : x.category = 1) (hp : pc + 1 = pc') (hr : G h k n pc' ls (x :: x :: st)) : G h k n pc ls (x :: st) := by
  obtain ⟨p, e, s, m, args, below, meth, c, hx, hby, hml, hown, hnm, hret, hlk, hZ, hw, rfl⟩ := C
  subst hp
  exact lift (fun T locs X _ target q => XS.dup X.here hx rfl (hb hby hd) rfl hc q) hr
theorem Cx.dup2 (C : Cx G l Z a0 ws R y bytes maxL ret n0 Q) {x z : Value} (hd : decode bytes pc = .ok (.dup2, 1)) (hc : x.category = 1) (hc' : z.category = 1) (hp : pc + 1 = pc') (hr : G h k n pc' ls (x :: z :: x :: z :: st)) : G h k n pc ls (x :: z :: st) := by
  obtain ⟨p, e, s, m, args, below, meth, c, hx, hby, hml, hown, hnm, hret, hlk, hZ, hw, rfl⟩ := C
  subst hp
  exact lift (fun T locs X _ target q => XT.dup2 X.here hx rfl (hb hby hd) rfl hc hc' q) hr
theorem Cx.iinc (C : Cx G l Z a0 ws R y bytes maxL ret n0 Q) {j : Nat} {i : Int} {v x : Int32} (hd : decode bytes pc = .ok (.iinc j i, 3)) (hv : Int32.ofInt i = v) (hl : ls[j]? = some (.val (.int x))) (hl' : storeLocals ls j (.int (x + v)) = some ls') (hp : pc + 3 = pc') (hr : G h k n pc' ls' st) : G h k n pc ls st := by
  obtain ⟨p, e, s, m, args, below, meth, c, hx, hby, hml, hown, hnm, hret, hlk, hZ, hw, rfl⟩ := C
  subst hp
  exact lift (fun T locs X _ target q => XT.iincV X.here hx rfl v (hb hby hd) hv hl hl' q) hr
theorem Cx.irem (C : Cx G l Z a0 ws R y bytes maxL ret n0 Q) {a b : Int32} (hd : decode bytes pc = .ok (.irem, 1)) (hb0 : b ≠ 0) (hp : pc + 1 = pc') (hr : G h k n pc' ls (.int (a % b) :: st)) : G h k n pc ls (.int b :: .int a :: st) := by
  obtain ⟨p, e, s, m, args, below, meth, c, hx, hby, hml, hown, hnm, hret, hlk, hZ, hw, rfl⟩ := C
  subst hp
  exact lift (fun T locs X _ target q => iremM X hx rfl (hb hby hd) rfl hb0 q) hr
theorem Cx.goto (C : Cx G l Z a0 ws R y bytes maxL ret n0 Q) {o : Int} (hd : decode bytes pc = .ok (.goto o, 3)) (ho : 0 ≤ (pc : Int) + o) (hp : ((pc : Int) + o).toNat = pc') (hr : G h k n pc' ls st) : G h k n pc ls st := by
  obtain ⟨p, e, s, m, args, below, meth, c, hx, hby, hml, hown, hnm, hret, hlk, hZ, hw, rfl⟩ := C
  exact lift (fun T locs X _ target q => XS.goto X.here hx rfl (pc0 := pc) rfl (hb hby hd) ho hp q) hr
theorem Cx.dupX2 (C : Cx G l Z a0 ws R y bytes maxL ret n0 Q) {x z w : Value} (hd : decode bytes pc = .ok (.dup_x2, 1)) (hc : x.category = 1) (hc' : z.category = 1) (hc'' : w.category = 1) (hp : pc + 1 = pc') (hr : G h k n pc' ls (x :: z :: w :: x :: st)) : G h k n pc ls (x :: z :: w :: st) := by
  obtain ⟨p, e, s, m, args, below, meth, c, hx, hby, hml, hown, hnm, hret, hlk, hZ, hw, rfl⟩ := C
  subst hp
  refine lift (fun T locs X _ target q => ?_) hr
  have h := X.here
  have hd' := hb hby hd
  show Steps p.tables e below (T.setTop { method := m, pc := pc, locals := ls, stack := x :: z :: w :: st, locked := none }) _
  jvm_step h [h.top, hx, hd', hc, hc', hc'']
  exact q
theorem Cx.icmp_eq_T (C : Cx G l Z a0 ws R y bytes maxL ret n0 Q) {a b : Int32} {o : Int} (hd : decode bytes pc = .ok (.if_icmp .eq o, 3)) (hc : a = b) (ho : 0 ≤ (pc : Int) + o) (hp : ((pc : Int) + o).toNat = pc') (hr : G h k n pc' ls st) : G h k n pc ls (.int b :: .int a :: st) := by
  obtain ⟨p, e, s, m, args, below, meth, c, hx, hby, hml, hown, hnm, hret, hlk, hZ, hw, rfl⟩ := C
  exact lift (fun T locs X _ target q => XS.icmpYes X.here hx rfl (pc0 := pc) rfl (hb hby hd) rfl (teq hc).1 ho hp q) hr
theorem Cx.icmp_eq_F (C : Cx G l Z a0 ws R y bytes maxL ret n0 Q) {a b : Int32} {o : Int} (hd : decode bytes pc = .ok (.if_icmp .eq o, 3)) (hc : ¬ a = b) (hp : pc + 3 = pc') (hr : G h k n pc' ls st) : G h k n pc ls (.int b :: .int a :: st) := by
  obtain ⟨p, e, s, m, args, below, meth, c, hx, hby, hml, hown, hnm, hret, hlk, hZ, hw, rfl⟩ := C
  subst hp
  exact lift (fun T locs X _ target q => XS.icmpNo X.here hx rfl (hb hby hd) rfl (feq hc).1 q) hr
theorem Cx.if_eq_T (C : Cx G l Z a0 ws R y bytes maxL ret n0 Q) {a : Int32} {o : Int} (hd : decode bytes pc = .ok (.ifCond .eq o, 3)) (hc : a = (0 : Int32)) (ho : 0 ≤ (pc : Int) + o) (hp : ((pc : Int) + o).toNat = pc') (hr : G h k n pc' ls st) : G h k n pc ls (.int a :: st) := by
  obtain ⟨p, e, s, m, args, below, meth, c, hx, hby, hml, hown, hnm, hret, hlk, hZ, hw, rfl⟩ := C
  exact lift (fun T locs X _ target q => XS.ifYes X.here hx rfl (pc0 := pc) rfl (hb hby hd) rfl (by rw [if0]; exact (teq hc).1) ho hp q) hr
theorem Cx.if_eq_F (C : Cx G l Z a0 ws R y bytes maxL ret n0 Q) {a : Int32} {o : Int} (hd : decode bytes pc = .ok (.ifCond .eq o, 3)) (hc : ¬ a = (0 : Int32)) (hp : pc + 3 = pc') (hr : G h k n pc' ls st) : G h k n pc ls (.int a :: st) := by
  obtain ⟨p, e, s, m, args, below, meth, c, hx, hby, hml, hown, hnm, hret, hlk, hZ, hw, rfl⟩ := C
  subst hp
  exact lift (fun T locs X _ target q => XS.ifNo X.here hx rfl (hb hby hd) rfl (by rw [if0]; exact (feq hc).1) q) hr
theorem Cx.icmp_eq (C : Cx G l Z a0 ws R y bytes maxL ret n0 Q) {a b : Int32} {o : Int} (hd : decode bytes pc = .ok (.if_icmp .eq o, 3)) (ho : 0 ≤ (pc : Int) + o) (hp : ((pc : Int) + o).toNat = pc1) (hq : pc + 3 = pc2) (h1 : a = b → G h k n pc1 ls st) (h2 : ¬ a = b → G h k n pc2 ls st) : G h k n pc ls (.int b :: .int a :: st) := by
  by_cases hc : a = b
  · exact C.icmp_eq_T hd hc ho hp (h1 hc)
  · exact C.icmp_eq_F hd hc hq (h2 hc)
theorem Cx.if_eq (C : Cx G l Z a0 ws R y bytes maxL ret n0 Q) {a : Int32} {o : Int} (hd : decode bytes pc = .ok (.ifCond .eq o, 3)) (ho : 0 ≤ (pc : Int) + o) (hp : ((pc : Int) + o).toNat = pc1) (hq : pc + 3 = pc2) (h1 : a = (0 : Int32) → G h k n pc1 ls st) (h2 : ¬ a = (0 : Int32) → G h k n pc2 ls st) : G h k n pc ls (.int a :: st) := by
  by_cases hc : a = (0 : Int32)
  · exact C.if_eq_T hd hc ho hp (h1 hc)
  · exact C.if_eq_F hd hc hq (h2 hc)
theorem Cx.icmp_ne_T (C : Cx G l Z a0 ws R y bytes maxL ret n0 Q) {a b : Int32} {o : Int} (hd : decode bytes pc = .ok (.if_icmp .ne o, 3)) (hc : ¬ a = b) (ho : 0 ≤ (pc : Int) + o) (hp : ((pc : Int) + o).toNat = pc') (hr : G h k n pc' ls st) : G h k n pc ls (.int b :: .int a :: st) := by
  obtain ⟨p, e, s, m, args, below, meth, c, hx, hby, hml, hown, hnm, hret, hlk, hZ, hw, rfl⟩ := C
  exact lift (fun T locs X _ target q => XS.icmpYes X.here hx rfl (pc0 := pc) rfl (hb hby hd) rfl (feq hc).2 ho hp q) hr
theorem Cx.icmp_ne_F (C : Cx G l Z a0 ws R y bytes maxL ret n0 Q) {a b : Int32} {o : Int} (hd : decode bytes pc = .ok (.if_icmp .ne o, 3)) (hc : a = b) (hp : pc + 3 = pc') (hr : G h k n pc' ls st) : G h k n pc ls (.int b :: .int a :: st) := by
  obtain ⟨p, e, s, m, args, below, meth, c, hx, hby, hml, hown, hnm, hret, hlk, hZ, hw, rfl⟩ := C
  subst hp
  exact lift (fun T locs X _ target q => XS.icmpNo X.here hx rfl (hb hby hd) rfl (teq hc).2 q) hr
theorem Cx.if_ne_T (C : Cx G l Z a0 ws R y bytes maxL ret n0 Q) {a : Int32} {o : Int} (hd : decode bytes pc = .ok (.ifCond .ne o, 3)) (hc : ¬ a = (0 : Int32)) (ho : 0 ≤ (pc : Int) + o) (hp : ((pc : Int) + o).toNat = pc') (hr : G h k n pc' ls st) : G h k n pc ls (.int a :: st) := by
  obtain ⟨p, e, s, m, args, below, meth, c, hx, hby, hml, hown, hnm, hret, hlk, hZ, hw, rfl⟩ := C
  exact lift (fun T locs X _ target q => XS.ifYes X.here hx rfl (pc0 := pc) rfl (hb hby hd) rfl (by rw [if0]; exact (feq hc).2) ho hp q) hr
theorem Cx.if_ne_F (C : Cx G l Z a0 ws R y bytes maxL ret n0 Q) {a : Int32} {o : Int} (hd : decode bytes pc = .ok (.ifCond .ne o, 3)) (hc : a = (0 : Int32)) (hp : pc + 3 = pc') (hr : G h k n pc' ls st) : G h k n pc ls (.int a :: st) := by
  obtain ⟨p, e, s, m, args, below, meth, c, hx, hby, hml, hown, hnm, hret, hlk, hZ, hw, rfl⟩ := C
  subst hp
  exact lift (fun T locs X _ target q => XS.ifNo X.here hx rfl (hb hby hd) rfl (by rw [if0]; exact (teq hc).2) q) hr
theorem Cx.icmp_ne (C : Cx G l Z a0 ws R y bytes maxL ret n0 Q) {a b : Int32} {o : Int} (hd : decode bytes pc = .ok (.if_icmp .ne o, 3)) (ho : 0 ≤ (pc : Int) + o) (hp : ((pc : Int) + o).toNat = pc1) (hq : pc + 3 = pc2) (h1 : ¬ a = b → G h k n pc1 ls st) (h2 : a = b → G h k n pc2 ls st) : G h k n pc ls (.int b :: .int a :: st) := by
  by_cases hc : a = b
  · exact C.icmp_ne_F hd hc hq (h2 hc)
  · exact C.icmp_ne_T hd hc ho hp (h1 hc)
theorem Cx.if_ne (C : Cx G l Z a0 ws R y bytes maxL ret n0 Q) {a : Int32} {o : Int} (hd : decode bytes pc = .ok (.ifCond .ne o, 3)) (ho : 0 ≤ (pc : Int) + o) (hp : ((pc : Int) + o).toNat = pc1) (hq : pc + 3 = pc2) (h1 : ¬ a = (0 : Int32) → G h k n pc1 ls st) (h2 : a = (0 : Int32) → G h k n pc2 ls st) : G h k n pc ls (.int a :: st) := by
  by_cases hc : a = (0 : Int32)
  · exact C.if_ne_F hd hc hq (h2 hc)
  · exact C.if_ne_T hd hc ho hp (h1 hc)
theorem Cx.icmp_lt_T (C : Cx G l Z a0 ws R y bytes maxL ret n0 Q) {a b : Int32} {o : Int} (hd : decode bytes pc = .ok (.if_icmp .lt o, 3)) (hc : a < b) (ho : 0 ≤ (pc : Int) + o) (hp : ((pc : Int) + o).toNat = pc') (hr : G h k n pc' ls st) : G h k n pc ls (.int b :: .int a :: st) := by
  obtain ⟨p, e, s, m, args, below, meth, c, hx, hby, hml, hown, hnm, hret, hlk, hZ, hw, rfl⟩ := C
  exact lift (fun T locs X _ target q => XS.icmpYes X.here hx rfl (pc0 := pc) rfl (hb hby hd) rfl (tlt hc).1 ho hp q) hr
theorem Cx.icmp_lt_F (C : Cx G l Z a0 ws R y bytes maxL ret n0 Q) {a b : Int32} {o : Int} (hd : decode bytes pc = .ok (.if_icmp .lt o, 3)) (hc : ¬ a < b) (hp : pc + 3 = pc') (hr : G h k n pc' ls st) : G h k n pc ls (.int b :: .int a :: st) := by
  obtain ⟨p, e, s, m, args, below, meth, c, hx, hby, hml, hown, hnm, hret, hlk, hZ, hw, rfl⟩ := C
  subst hp
  exact lift (fun T locs X _ target q => XS.icmpNo X.here hx rfl (hb hby hd) rfl (flt hc).1 q) hr
theorem Cx.if_lt_T (C : Cx G l Z a0 ws R y bytes maxL ret n0 Q) {a : Int32} {o : Int} (hd : decode bytes pc = .ok (.ifCond .lt o, 3)) (hc : a < (0 : Int32)) (ho : 0 ≤ (pc : Int) + o) (hp : ((pc : Int) + o).toNat = pc') (hr : G h k n pc' ls st) : G h k n pc ls (.int a :: st) := by
  obtain ⟨p, e, s, m, args, below, meth, c, hx, hby, hml, hown, hnm, hret, hlk, hZ, hw, rfl⟩ := C
  exact lift (fun T locs X _ target q => XS.ifYes X.here hx rfl (pc0 := pc) rfl (hb hby hd) rfl (by rw [if0]; exact (tlt hc).1) ho hp q) hr
theorem Cx.if_lt_F (C : Cx G l Z a0 ws R y bytes maxL ret n0 Q) {a : Int32} {o : Int} (hd : decode bytes pc = .ok (.ifCond .lt o, 3)) (hc : ¬ a < (0 : Int32)) (hp : pc + 3 = pc') (hr : G h k n pc' ls st) : G h k n pc ls (.int a :: st) := by
  obtain ⟨p, e, s, m, args, below, meth, c, hx, hby, hml, hown, hnm, hret, hlk, hZ, hw, rfl⟩ := C
  subst hp
  exact lift (fun T locs X _ target q => XS.ifNo X.here hx rfl (hb hby hd) rfl (by rw [if0]; exact (flt hc).1) q) hr
theorem Cx.icmp_lt (C : Cx G l Z a0 ws R y bytes maxL ret n0 Q) {a b : Int32} {o : Int} (hd : decode bytes pc = .ok (.if_icmp .lt o, 3)) (ho : 0 ≤ (pc : Int) + o) (hp : ((pc : Int) + o).toNat = pc1) (hq : pc + 3 = pc2) (h1 : a < b → G h k n pc1 ls st) (h2 : ¬ a < b → G h k n pc2 ls st) : G h k n pc ls (.int b :: .int a :: st) := by
  by_cases hc : a < b
  · exact C.icmp_lt_T hd hc ho hp (h1 hc)
  · exact C.icmp_lt_F hd hc hq (h2 hc)
theorem Cx.if_lt (C : Cx G l Z a0 ws R y bytes maxL ret n0 Q) {a : Int32} {o : Int} (hd : decode bytes pc = .ok (.ifCond .lt o, 3)) (ho : 0 ≤ (pc : Int) + o) (hp : ((pc : Int) + o).toNat = pc1) (hq : pc + 3 = pc2) (h1 : a < (0 : Int32) → G h k n pc1 ls st) (h2 : ¬ a < (0 : Int32) → G h k n pc2 ls st) : G h k n pc ls (.int a :: st) := by
  by_cases hc : a < (0 : Int32)
  · exact C.if_lt_T hd hc ho hp (h1 hc)
  · exact C.if_lt_F hd hc hq (h2 hc)
theorem Cx.icmp_ge_T (C : Cx G l Z a0 ws R y bytes maxL ret n0 Q) {a b : Int32} {o : Int} (hd : decode bytes pc = .ok (.if_icmp .ge o, 3)) (hc : ¬ a < b) (ho : 0 ≤ (pc : Int) + o) (hp : ((pc : Int) + o).toNat = pc') (hr : G h k n pc' ls st) : G h k n pc ls (.int b :: .int a :: st) := by
  obtain ⟨p, e, s, m, args, below, meth, c, hx, hby, hml, hown, hnm, hret, hlk, hZ, hw, rfl⟩ := C
  exact lift (fun T locs X _ target q => XS.icmpYes X.here hx rfl (pc0 := pc) rfl (hb hby hd) rfl (flt hc).2.1 ho hp q) hr
theorem Cx.icmp_ge_F (C : Cx G l Z a0 ws R y bytes maxL ret n0 Q) {a b : Int32} {o : Int} (hd : decode bytes pc = .ok (.if_icmp .ge o, 3)) (hc : a < b) (hp : pc + 3 = pc') (hr : G h k n pc' ls st) : G h k n pc ls (.int b :: .int a :: st) := by
  obtain ⟨p, e, s, m, args, below, meth, c, hx, hby, hml, hown, hnm, hret, hlk, hZ, hw, rfl⟩ := C
  subst hp
  exact lift (fun T locs X _ target q => XS.icmpNo X.here hx rfl (hb hby hd) rfl (tlt hc).2.1 q) hr
theorem Cx.if_ge_T (C : Cx G l Z a0 ws R y bytes maxL ret n0 Q) {a : Int32} {o : Int} (hd : decode bytes pc = .ok (.ifCond .ge o, 3)) (hc : ¬ a < (0 : Int32)) (ho : 0 ≤ (pc : Int) + o) (hp : ((pc : Int) + o).toNat = pc') (hr : G h k n pc' ls st) : G h k n pc ls (.int a :: st) := by
  obtain ⟨p, e, s, m, args, below, meth, c, hx, hby, hml, hown, hnm, hret, hlk, hZ, hw, rfl⟩ := C
  exact lift (fun T locs X _ target q => XS.ifYes X.here hx rfl (pc0 := pc) rfl (hb hby hd) rfl (by rw [if0]; exact (flt hc).2.1) ho hp q) hr
theorem Cx.if_ge_F (C : Cx G l Z a0 ws R y bytes maxL ret n0 Q) {a : Int32} {o : Int} (hd : decode bytes pc = .ok (.ifCond .ge o, 3)) (hc : a < (0 : Int32)) (hp : pc + 3 = pc') (hr : G h k n pc' ls st) : G h k n pc ls (.int a :: st) := by
  obtain ⟨p, e, s, m, args, below, meth, c, hx, hby, hml, hown, hnm, hret, hlk, hZ, hw, rfl⟩ := C
  subst hp
  exact lift (fun T locs X _ target q => XS.ifNo X.here hx rfl (hb hby hd) rfl (by rw [if0]; exact (tlt hc).2.1) q) hr
theorem Cx.icmp_ge (C : Cx G l Z a0 ws R y bytes maxL ret n0 Q) {a b : Int32} {o : Int} (hd : decode bytes pc = .ok (.if_icmp .ge o, 3)) (ho : 0 ≤ (pc : Int) + o) (hp : ((pc : Int) + o).toNat = pc1) (hq : pc + 3 = pc2) (h1 : ¬ a < b → G h k n pc1 ls st) (h2 : a < b → G h k n pc2 ls st) : G h k n pc ls (.int b :: .int a :: st) := by
  by_cases hc : a < b
  · exact C.icmp_ge_F hd hc hq (h2 hc)
  · exact C.icmp_ge_T hd hc ho hp (h1 hc)
theorem Cx.if_ge (C : Cx G l Z a0 ws R y bytes maxL ret n0 Q) {a : Int32} {o : Int} (hd : decode bytes pc = .ok (.ifCond .ge o, 3)) (ho : 0 ≤ (pc : Int) + o) (hp : ((pc : Int) + o).toNat = pc1) (hq : pc + 3 = pc2) (h1 : ¬ a < (0 : Int32) → G h k n pc1 ls st) (h2 : a < (0 : Int32) → G h k n pc2 ls st) : G h k n pc ls (.int a :: st) := by
  by_cases hc : a < (0 : Int32)
  · exact C.if_ge_F hd hc hq (h2 hc)
  · exact C.if_ge_T hd hc ho hp (h1 hc)
theorem Cx.icmp_gt_T (C : Cx G l Z a0 ws R y bytes maxL ret n0 Q) {a b : Int32} {o : Int} (hd : decode bytes pc = .ok (.if_icmp .gt o, 3)) (hc : b < a) (ho : 0 ≤ (pc : Int) + o) (hp : ((pc : Int) + o).toNat = pc') (hr : G h k n pc' ls st) : G h k n pc ls (.int b :: .int a :: st) := by
  obtain ⟨p, e, s, m, args, below, meth, c, hx, hby, hml, hown, hnm, hret, hlk, hZ, hw, rfl⟩ := C
  exact lift (fun T locs X _ target q => XS.icmpYes X.here hx rfl (pc0 := pc) rfl (hb hby hd) rfl (tlt hc).2.2.1 ho hp q) hr
theorem Cx.icmp_gt_F (C : Cx G l Z a0 ws R y bytes maxL ret n0 Q) {a b : Int32} {o : Int} (hd : decode bytes pc = .ok (.if_icmp .gt o, 3)) (hc : ¬ b < a) (hp : pc + 3 = pc') (hr : G h k n pc' ls st) : G h k n pc ls (.int b :: .int a :: st) := by
  obtain ⟨p, e, s, m, args, below, meth, c, hx, hby, hml, hown, hnm, hret, hlk, hZ, hw, rfl⟩ := C
  subst hp
  exact lift (fun T locs X _ target q => XS.icmpNo X.here hx rfl (hb hby hd) rfl (flt hc).2.2.1 q) hr
theorem Cx.if_gt_T (C : Cx G l Z a0 ws R y bytes maxL ret n0 Q) {a : Int32} {o : Int} (hd : decode bytes pc = .ok (.ifCond .gt o, 3)) (hc : (0 : Int32) < a) (ho : 0 ≤ (pc : Int) + o) (hp : ((pc : Int) + o).toNat = pc') (hr : G h k n pc' ls st) : G h k n pc ls (.int a :: st) := by
  obtain ⟨p, e, s, m, args, below, meth, c, hx, hby, hml, hown, hnm, hret, hlk, hZ, hw, rfl⟩ := C
  exact lift (fun T locs X _ target q => XS.ifYes X.here hx rfl (pc0 := pc) rfl (hb hby hd) rfl (by rw [if0]; exact (tlt hc).2.2.1) ho hp q) hr
theorem Cx.if_gt_F (C : Cx G l Z a0 ws R y bytes maxL ret n0 Q) {a : Int32} {o : Int} (hd : decode bytes pc = .ok (.ifCond .gt o, 3)) (hc : ¬ (0 : Int32) < a) (hp : pc + 3 = pc') (hr : G h k n pc' ls st) : G h k n pc ls (.int a :: st) := by
  obtain ⟨p, e, s, m, args, below, meth, c, hx, hby, hml, hown, hnm, hret, hlk, hZ, hw, rfl⟩ := C
  subst hp
  exact lift (fun T locs X _ target q => XS.ifNo X.here hx rfl (hb hby hd) rfl (by rw [if0]; exact (flt hc).2.2.1) q) hr
theorem Cx.icmp_gt (C : Cx G l Z a0 ws R y bytes maxL ret n0 Q) {a b : Int32} {o : Int} (hd : decode bytes pc = .ok (.if_icmp .gt o, 3)) (ho : 0 ≤ (pc : Int) + o) (hp : ((pc : Int) + o).toNat = pc1) (hq : pc + 3 = pc2) (h1 : b < a → G h k n pc1 ls st) (h2 : ¬ b < a → G h k n pc2 ls st) : G h k n pc ls (.int b :: .int a :: st) := by
  by_cases hc : b < a
  · exact C.icmp_gt_T hd hc ho hp (h1 hc)
  · exact C.icmp_gt_F hd hc hq (h2 hc)
theorem Cx.if_gt (C : Cx G l Z a0 ws R y bytes maxL ret n0 Q) {a : Int32} {o : Int} (hd : decode bytes pc = .ok (.ifCond .gt o, 3)) (ho : 0 ≤ (pc : Int) + o) (hp : ((pc : Int) + o).toNat = pc1) (hq : pc + 3 = pc2) (h1 : (0 : Int32) < a → G h k n pc1 ls st) (h2 : ¬ (0 : Int32) < a → G h k n pc2 ls st) : G h k n pc ls (.int a :: st) := by
  by_cases hc : (0 : Int32) < a
  · exact C.if_gt_T hd hc ho hp (h1 hc)
  · exact C.if_gt_F hd hc hq (h2 hc)
theorem Cx.icmp_le_T (C : Cx G l Z a0 ws R y bytes maxL ret n0 Q) {a b : Int32} {o : Int} (hd : decode bytes pc = .ok (.if_icmp .le o, 3)) (hc : ¬ b < a) (ho : 0 ≤ (pc : Int) + o) (hp : ((pc : Int) + o).toNat = pc') (hr : G h k n pc' ls st) : G h k n pc ls (.int b :: .int a :: st) := by
  obtain ⟨p, e, s, m, args, below, meth, c, hx, hby, hml, hown, hnm, hret, hlk, hZ, hw, rfl⟩ := C
  exact lift (fun T locs X _ target q => XS.icmpYes X.here hx rfl (pc0 := pc) rfl (hb hby hd) rfl (flt hc).2.2.2 ho hp q) hr
theorem Cx.icmp_le_F (C : Cx G l Z a0 ws R y bytes maxL ret n0 Q) {a b : Int32} {o : Int} (hd : decode bytes pc = .ok (.if_icmp .le o, 3)) (hc : b < a) (hp : pc + 3 = pc') (hr : G h k n pc' ls st) : G h k n pc ls (.int b :: .int a :: st) := by
  obtain ⟨p, e, s, m, args, below, meth, c, hx, hby, hml, hown, hnm, hret, hlk, hZ, hw, rfl⟩ := C
  subst hp
  exact lift (fun T locs X _ target q => XS.icmpNo X.here hx rfl (hb hby hd) rfl (tlt hc).2.2.2 q) hr
theorem Cx.if_le_T (C : Cx G l Z a0 ws R y bytes maxL ret n0 Q) {a : Int32} {o : Int} (hd : decode bytes pc = .ok (.ifCond .le o, 3)) (hc : ¬ (0 : Int32) < a) (ho : 0 ≤ (pc : Int) + o) (hp : ((pc : Int) + o).toNat = pc') (hr : G h k n pc' ls st) : G h k n pc ls (.int a :: st) := by
  obtain ⟨p, e, s, m, args, below, meth, c, hx, hby, hml, hown, hnm, hret, hlk, hZ, hw, rfl⟩ := C
  exact lift (fun T locs X _ target q => XS.ifYes X.here hx rfl (pc0 := pc) rfl (hb hby hd) rfl (by rw [if0]; exact (flt hc).2.2.2) ho hp q) hr
theorem Cx.if_le_F (C : Cx G l Z a0 ws R y bytes maxL ret n0 Q) {a : Int32} {o : Int} (hd : decode bytes pc = .ok (.ifCond .le o, 3)) (hc : (0 : Int32) < a) (hp : pc + 3 = pc') (hr : G h k n pc' ls st) : G h k n pc ls (.int a :: st) := by
  obtain ⟨p, e, s, m, args, below, meth, c, hx, hby, hml, hown, hnm, hret, hlk, hZ, hw, rfl⟩ := C
  subst hp
  exact lift (fun T locs X _ target q => XS.ifNo X.here hx rfl (hb hby hd) rfl (by rw [if0]; exact (tlt hc).2.2.2) q) hr
theorem Cx.icmp_le (C : Cx G l Z a0 ws R y bytes maxL ret n0 Q) {a b : Int32} {o : Int} (hd : decode bytes pc = .ok (.if_icmp .le o, 3)) (ho : 0 ≤ (pc : Int) + o) (hp : ((pc : Int) + o).toNat = pc1) (hq : pc + 3 = pc2) (h1 : ¬ b < a → G h k n pc1 ls st) (h2 : b < a → G h k n pc2 ls st) : G h k n pc ls (.int b :: .int a :: st) := by
  by_cases hc : b < a
  · exact C.icmp_le_F hd hc hq (h2 hc)
  · exact C.icmp_le_T hd hc ho hp (h1 hc)
theorem Cx.if_le (C : Cx G l Z a0 ws R y bytes maxL ret n0 Q) {a : Int32} {o : Int} (hd : decode bytes pc = .ok (.ifCond .le o, 3)) (ho : 0 ≤ (pc : Int) + o) (hp : ((pc : Int) + o).toNat = pc1) (hq : pc + 3 = pc2) (h1 : ¬ (0 : Int32) < a → G h k n pc1 ls st) (h2 : (0 : Int32) < a → G h k n pc2 ls st) : G h k n pc ls (.int a :: st) := by
  by_cases hc : (0 : Int32) < a
  · exact C.if_le_F hd hc hq (h2 hc)
  · exact C.if_le_T hd hc ho hp (h1 hc)
theorem Cx.ldcI (C : Cx G l Z a0 ws R y bytes maxL ret n0 Q) {i idx : Nat} {v : Int32} (w : ws[i]? = some (Jvm.Cond.constant y.cls idx v)) (hd : decode bytes pc = .ok (.ldc idx, 2)) (hp : pc + 2 = pc') (hr : G h k n pc' ls (.int v :: st)) : G h k n pc ls st := by
  obtain ⟨p, e, s, m, args, below, meth, c, hx, hby, hml, hown, hnm, hret, hlk, hZ, hw, rfl⟩ := C
  subst hp
  exact lift (fun T locs X _ target q => X.ldcInt hx hown (mvT hZ (word hw w)) (g := mkF m pc ls st) rfl (hb hby hd) target q) hr
theorem Cx.ldcJ (C : Cx G l Z a0 ws R y bytes maxL ret n0 Q) {i idx : Nat} {v : Int64} (w : ws[i]? = some (Jvm.Cond.constantLong y.cls idx v)) (hd : decode bytes pc = .ok (.ldc2_w idx, 3)) (hp : pc + 3 = pc') (hr : G h k n pc' ls (.long v :: st)) : G h k n pc ls st := by
  obtain ⟨p, e, s, m, args, below, meth, c, hx, hby, hml, hown, hnm, hret, hlk, hZ, hw, rfl⟩ := C
  subst hp
  exact lift (fun T locs X _ target q => X.ldc2Long hx hown (mvT hZ (word hw w)) (g := mkF m pc ls st) rfl (hb hby hd) target q) hr
theorem Cx.ldcD (C : Cx G l Z a0 ws R y bytes maxL ret n0 Q) {i idx : Nat} {v : UInt64} (w : ws[i]? = some (Jvm.Cond.constantDouble y.cls idx v)) (hd : decode bytes pc = .ok (.ldc2_w idx, 3)) (hp : pc + 3 = pc') (hr : G h k n pc' ls (.double v :: st)) : G h k n pc ls st := by
  obtain ⟨p, e, s, m, args, below, meth, c, hx, hby, hml, hown, hnm, hret, hlk, hZ, hw, rfl⟩ := C
  subst hp
  exact lift (fun T locs X _ target q => X.ldc2DoubleC hx hown (mvT hZ (word hw w)) (g := mkF m pc ls st) rfl (hb hby hd) target q) hr
theorem castI {a b : Int32} (q : a = b) (hr : G h k n pc ls (.int b :: st)) : G h k n pc ls (.int a :: st) := by rw [q]; exact hr
theorem castJ {a b : Int64} (q : a = b) (hr : G h k n pc ls (.long b :: st)) : G h k n pc ls (.long a :: st) := by rw [q]; exact hr
theorem cmpL_lt {a b : Int64} : XT.cmpL a b < 0 ↔ a < b := by
  unfold XT.cmpL
  split
  · rename_i q; constructor
    · intro r; exact absurd r (by decide)
    · intro r; rw [Int64.lt_iff_toInt_lt] at q r; omega
  · split
    · rename_i q; subst q; constructor
      · intro r; exact absurd r (by decide)
      · intro r; rw [Int64.lt_iff_toInt_lt] at r; omega
    · rename_i p q; constructor
      · intro _; rw [Int64.lt_iff_toInt_lt] at p ⊢; have : a.toInt ≠ b.toInt := fun r => q (Int64.toInt_inj.mp r); omega
      · intro _; decide
theorem cmpL_gt {a b : Int64} : 0 < XT.cmpL a b ↔ b < a := by
  unfold XT.cmpL
  split
  · rename_i q; exact ⟨fun _ => q, fun _ => by decide⟩
  · rename_i p
    split
    · exact ⟨fun r => absurd r (by decide), fun r => absurd r p⟩
    · exact ⟨fun r => absurd r (by decide), fun r => absurd r p⟩
theorem cmpL_eq {a b : Int64} : XT.cmpL a b = 0 ↔ a = b := by
  unfold XT.cmpL
  split
  · rename_i q; constructor
    · intro r; exact absurd r (by decide)
    · intro r; subst r; rw [Int64.lt_iff_toInt_lt] at q; omega
  · split
    · rename_i q; exact ⟨fun _ => q, fun _ => rfl⟩
    · rename_i q; exact ⟨fun r => absurd r (by decide), fun r => absurd r q⟩
def b2i (b : Bool) : Int32 := match b with | true => 1 | false => 0
theorem b2i_f {b : Bool} (q : b2i b = 0) : b = false := by cases b with | false => rfl | true => exact absurd q (by decide)
theorem b2i_t {b : Bool} (q : ¬ b2i b = 0) : b = true := by cases b with | true => rfl | false => exact absurd rfl q
theorem nar_b (x : Int32) : nar .byte x.toInt8.toInt32 = x.toInt8.toInt32 := by simp [nar]
theorem Cx.ireturn (C : Cx G l Z a0 ws R y bytes maxL ret n0 Q) {a : Int32} (hd : decode bytes pc = .ok (.ireturn, 1)) (ht : ret = some .int) (hk : k ≤ R.cells) (hn : n ≤ R.slots) (hq : Q (some (.int a)) h) : G h k n pc ls (.int a :: st) := by
  obtain ⟨p, e, s, m, args, below, meth, c, hx, hby, hml, hown, hnm, hret, hlk, hZ, hw, rfl⟩ := C
  subst ht
  intro T locs X hT hF
  obtain ⟨fs, hr, hrun, hended, hW, hsame⟩ := X.leave (v := some (.int a)) (fun q => by rw [hret] at q; cases q) hlk
  refine ⟨_, _, retOut X hx hret rfl (Or.inl ⟨rfl, Or.inl rfl, a, rfl⟩) (hb hby hd) hr, hrun, hended, _, locs, rfl, ⟨?_, hF⟩, ⟨_, rfl⟩, hW, hsame.mono hk hn⟩
  show Q _ T.heap
  rw [hT]; exact hq
theorem Cx.nreturn (C : Cx G l Z a0 ws R y bytes maxL ret n0 Q) {a b : Int32} {t : FieldType} (hd : decode bytes pc = .ok (.ireturn, 1)) (ht : ret = some t) (ht' : t = .boolean ∨ t = .byte ∨ t = .char ∨ t = .short) (hk : k ≤ R.cells) (hn : n ≤ R.slots) (hb' : nar t a = b) (hq : Q (some (.int b)) h) : G h k n pc ls (.int a :: st) := by
  obtain ⟨p, e, s, m, args, below, meth, c, hx, hby, hml, hown, hnm, hret, hlk, hZ, hw, rfl⟩ := C
  subst ht hb'
  intro T locs X hT hF
  obtain ⟨fs, hr, hrun, hended, hW, hsame⟩ := X.leave (v := some (.int (nar t a))) (fun q => by rw [hret] at q; cases q) hlk
  refine ⟨_, _, retN X hx hret ht' (hb hby hd) hr, hrun, hended, _, locs, rfl, ⟨?_, hF⟩, ⟨_, rfl⟩, hW, hsame.mono hk hn⟩
  show Q _ T.heap
  rw [hT]; exact hq
theorem Cx.lreturn (C : Cx G l Z a0 ws R y bytes maxL ret n0 Q) {a : Int64} (hd : decode bytes pc = .ok (.lreturn, 1)) (ht : ret = some .long) (hk : k ≤ R.cells) (hn : n ≤ R.slots) (hq : Q (some (.long a)) h) : G h k n pc ls (.long a :: st) := by
  obtain ⟨p, e, s, m, args, below, meth, c, hx, hby, hml, hown, hnm, hret, hlk, hZ, hw, rfl⟩ := C
  subst ht
  intro T locs X hT hF
  obtain ⟨fs, hr, hrun, hended, hW, hsame⟩ := X.leave (v := some (.long a)) (fun q => by rw [hret] at q; cases q) hlk
  refine ⟨_, _, retOut X hx hret rfl (Or.inr (Or.inl ⟨rfl, rfl, a, rfl⟩)) (hb hby hd) hr, hrun, hended, _, locs, rfl, ⟨?_, hF⟩, ⟨_, rfl⟩, hW, hsame.mono hk hn⟩
  show Q _ T.heap
  rw [hT]; exact hq
theorem Cx.areturn (C : Cx G l Z a0 ws R y bytes maxL ret n0 Q) {a : Addr} {t : FieldType} (hd : decode bytes pc = .ok (.areturn, 1)) (ht : ret = some t) (ht' : t.isReference = true) (hnr : narrow t (.ref a) = .ref a) (hk : k ≤ R.cells) (hn : n ≤ R.slots) (hq : Q (some (.ref a)) h) : G h k n pc ls (.ref a :: st) := by
  obtain ⟨p, e, s, m, args, below, meth, c, hx, hby, hml, hown, hnm, hret, hlk, hZ, hw, rfl⟩ := C
  subst ht
  intro T locs X hT hF
  obtain ⟨fs, hr, hrun, hended, hW, hsame⟩ := X.leave (v := some (.ref a)) (fun q => by rw [hret] at q; cases q) hlk
  refine ⟨_, _, retOut X hx hret hnr (Or.inr (Or.inr (Or.inr (Or.inr ⟨rfl, ht', rfl⟩)))) (hb hby hd) hr, hrun, hended, _, locs, rfl, ⟨?_, hF⟩, ⟨_, rfl⟩, hW, hsame.mono hk hn⟩
  show Q _ T.heap
  rw [hT]; exact hq
theorem Cx.vreturn (C : Cx G l Z a0 ws R y bytes maxL ret n0 Q) (hd : decode bytes pc = .ok (.return_, 1)) (ht : ret = none) (hk : k ≤ R.cells) (hn : n ≤ R.slots) (hq : Q none h) : G h k n pc ls [] := by
  obtain ⟨p, e, s, m, args, below, meth, c, hx, hby, hml, hown, hnm, hret, hlk, hZ, hw, rfl⟩ := C
  subst ht
  intro T locs X hT hF
  obtain ⟨fs, hr, hrun, hended, hW, hsame⟩ := X.leave (v := none) (fun _ => rfl) hlk
  refine ⟨_, _, X.returnOut hx hret (hb hby hd) hr, hrun, hended, _, locs, rfl, ⟨?_, hF⟩, ⟨_, rfl⟩, hW, hsame.mono hk hn⟩
  show Q _ T.heap
  rw [hT]; exact hq
def Lst (Z : State) (h : Heap) (a : Addr) (ty : FieldType) (vs : List Value) : Prop := ∃ c : Cell, Arr Z h a c ty ∧ c.slots = vs.toArray
theorem Lst.lt {Z : State} {h : Heap} {a : Addr} {ty : FieldType} {vs : List Value} (F : Lst Z h a ty vs) : a < h.size := by obtain ⟨c, A, -⟩ := F; exact A.lt
theorem Lst.ext {Z : State} {h h' : Heap} {a : Addr} {ty : FieldType} {vs : List Value} (F : Lst Z h a ty vs) (E : Ext h h') : Lst Z h' a ty vs := by obtain ⟨c, A, r⟩ := F; exact ⟨c, A.ext E, r⟩
theorem Lst.other {Z : State} {h h' : Heap} {a b : Addr} {sl : Nat} {v : Value} {ty : FieldType} {vs : List Value} (F : Lst Z h b ty vs) (W : Wr h h' a sl v) (q : b ≠ a) : Lst Z h' b ty vs := by obtain ⟨c, A, r⟩ := F; exact ⟨c, A.other W q, r⟩
theorem Lst.keep {Z : State} {h h' : Heap} {a : Addr} {wr : List Addr} {ty : FieldType} {vs : List Value} (F : Lst Z h a ty vs) (K : Keep h h' wr) (q : a ∉ wr) : Lst Z h' a ty vs := by obtain ⟨c, A, r⟩ := F; exact ⟨c, ⟨K.2.1 a c A.1 q, A.2⟩, r⟩
def Idx (j : Int32) (i : Nat) : Prop := ¬ j < 0 ∧ j.toNatClampNeg = i
theorem Idx.of {j : Int32} {i : Nat} (h : j.toInt = (i : Int)) : Idx j i := by
  refine ⟨fun q => ?_, ?_⟩
  · rw [Int32.lt_iff_toInt_lt] at q; have : (0 : Int32).toInt = 0 := rfl; omega
  · simp only [Int32.toNatClampNeg]; omega
theorem Idx.int {j : Int32} {i : Nat} (h : Idx j i) : j.toInt = (i : Int) := by rw [nat_of h.1, h.2]
theorem Idx.bound {j : Int32} {i : Nat} {c : Cell} {vs : List Value} (h : Idx j i) (r : c.slots = vs.toArray) (hi : i < vs.length) : ¬ (j < 0 ∨ c.slots.size ≤ j.toNatClampNeg) := by
  rintro (q | q)
  · exact h.1 q
  · rw [h.2, r] at q; simp at q; omega
theorem Cx.arraylength (C : Cx G l Z a0 ws R y bytes maxL ret n0 Q) {a : Addr} {ty : FieldType} {vs : List Value} {N : Int32} (A : Lst Z h a ty vs) (hN : vs.length.toInt32 = N) (hd : decode bytes pc = .ok (.arraylength, 1)) (hp : pc + 1 = pc') (hr : G h k n pc' ls (.int N :: st)) : G h k n pc ls (.ref a :: st) := by
  obtain ⟨p, e, s, m, args, below, meth, c, hx, hby, hml, hown, hnm, hret, hlk, hZ, hw, rfl⟩ := C
  subst hp hN
  obtain ⟨cl, A, r⟩ := A
  refine lift (fun T locs X hT target q => X.arraylength hx (by rw [hT]; exact A.1) (State.isArrayOf_alike hZ.alike A.2.1) (g := mkF m pc ls (.ref a :: st)) rfl rfl (hb hby hd) target ?_) hr
  rw [r]; exact q
theorem Cx.iaload (C : Cx G l Z a0 ws R y bytes maxL ret n0 Q) {a : Addr} {vs : List Value} {j : Int32} {i : Nat} {v : Value} (A : Lst Z h a .int vs) (hj : Idx j i) (hv : vs[i]? = some v) (hd : decode bytes pc = .ok (.iaload, 1)) (hp : pc + 1 = pc') (hr : G h k n pc' ls (v :: st)) : G h k n pc ls (.int j :: .ref a :: st) := by
  obtain ⟨p, e, s, m, args, below, meth, c, hx, hby, hml, hown, hnm, hret, hlk, hZ, hw, rfl⟩ := C
  subst hp
  obtain ⟨cl, A, r⟩ := A
  exact lift (fun T locs X hT target q => X.iaload hx (by rw [hT]; exact A.1) (State.isArrayOf_alike hZ.alike A.2.1) A.2.2 (hj.bound r (List.getElem?_eq_some_iff.mp hv).1) (by rw [hj.2, r]; simpa using hv) (g := mkF m pc ls (.int j :: .ref a :: st)) rfl rfl (hb hby hd) target q) hr
theorem Cx.baload (C : Cx G l Z a0 ws R y bytes maxL ret n0 Q) {a : Addr} {vs : List Value} {j : Int32} {i : Nat} {v : Value} (A : Lst Z h a .byte vs) (hj : Idx j i) (hv : vs[i]? = some v) (hd : decode bytes pc = .ok (.baload, 1)) (hp : pc + 1 = pc') (hr : G h k n pc' ls (v :: st)) : G h k n pc ls (.int j :: .ref a :: st) := by
  obtain ⟨p, e, s, m, args, below, meth, c, hx, hby, hml, hown, hnm, hret, hlk, hZ, hw, rfl⟩ := C
  subst hp
  obtain ⟨cl, A, r⟩ := A
  exact lift (fun T locs X hT target q => X.baloadBytes hx (by rw [hT]; exact A.1) (State.isArrayOf_alike hZ.alike A.2.1) A.2.2 (hj.bound r (List.getElem?_eq_some_iff.mp hv).1) (by rw [hj.2, r]; simpa using hv) (g := mkF m pc ls (.int j :: .ref a :: st)) rfl rfl (hb hby hd) target q) hr
theorem Lst.same {Z : State} {h h' : Heap} {a : Addr} {i : Nat} {v : Value} {ty : FieldType} {vs : List Value} (F : Lst Z h a ty vs) (W : Wr h h' a i v) : Lst Z h' a ty (vs.set i v) := by
  obtain ⟨c, A, r⟩ := F
  exact ⟨_, A.same W, by simp [Cell.setSlot, r]⟩
theorem Cx.iastore (C : Cx G l Z a0 ws R y bytes maxL ret n0 Q) {a : Addr} {vs vs' : List Value} {j x : Int32} {i : Nat} (A : Lst Z h a .int vs) (hj : Idx j i) (hi : i < vs.length) (hs : vs.set i (.int x) = vs') (ga : n0 ≤ a) (hd : decode bytes pc = .ok (.iastore, 1)) (hp : pc + 1 = pc') (hr : ∀ h', Wr h h' a i (.int x) → Lst Z h' a .int vs' → G h' k n pc' ls st) : G h k n pc ls (.int x :: .int j :: .ref a :: st) := by
  obtain ⟨p, e, s, m, args, below, meth, c, hx, hby, hml, hown, hnm, hret, hlk, hZ, hw, rfl⟩ := C
  subst hp hs
  have A' := A
  obtain ⟨cl, A, r⟩ := A
  intro T locs X hT hF
  obtain ⟨T', h', X', e', W', s'⟩ := stI X hx hZ hT A (hj.bound r hi) (g := mkF m pc ls (.int x :: .int j :: .ref a :: st)) rfl rfl (hb hby hd)
  rw [hj.2] at W'
  obtain ⟨s₂, o, h1, h2⟩ := hr h' W' (A'.same W') T' _ X' e' (Fr.snoc X' hF ga)
  exact ⟨s₂, o, s' _ h1, h2⟩
theorem Cx.bastore (C : Cx G l Z a0 ws R y bytes maxL ret n0 Q) {a : Addr} {vs vs' : List Value} {j x x' : Int32} {i : Nat} (A : Lst Z h a .byte vs) (hj : Idx j i) (hi : i < vs.length) (hx' : nar .byte x = x') (hs : vs.set i (.int x') = vs') (ga : n0 ≤ a) (hd : decode bytes pc = .ok (.bastore, 1)) (hp : pc + 1 = pc') (hr : ∀ h', Wr h h' a i (.int x') → Lst Z h' a .byte vs' → G h' k n pc' ls st) : G h k n pc ls (.int x :: .int j :: .ref a :: st) := by
  obtain ⟨p, e, s, m, args, below, meth, c, hx, hby, hml, hown, hnm, hret, hlk, hZ, hw, rfl⟩ := C
  subst hp hs hx'
  have A' := A
  obtain ⟨cl, A, r⟩ := A
  intro T locs X hT hF
  obtain ⟨T', h', X', e', W', s'⟩ := stB X hx hZ hT A (hj.bound r hi) (g := mkF m pc ls (.int x :: .int j :: .ref a :: st)) rfl rfl (hb hby hd)
  rw [hj.2] at W'
  obtain ⟨s₂, o, h1, h2⟩ := hr h' W' (A'.same W') T' _ X' e' (Fr.snoc X' hF ga)
  exact ⟨s₂, o, s' _ h1, h2⟩
theorem Cx.dastore (C : Cx G l Z a0 ws R y bytes maxL ret n0 Q) {a : Addr} {vs : List Value} {j : Int32} {x : UInt64} {i : Nat} (A : Lst Z h a .double vs) (hj : Idx j i) (hi : i < vs.length) (ga : n0 ≤ a) (hd : decode bytes pc = .ok (.dastore, 1)) (hp : pc + 1 = pc') (hr : ∀ h', Wr h h' a i (.double x) → Lst Z h' a .double (vs.set i (.double x)) → G h' k n pc' ls st) : G h k n pc ls (.double x :: .int j :: .ref a :: st) := by
  obtain ⟨p, e, s, m, args, below, meth, c, hx, hby, hml, hown, hnm, hret, hlk, hZ, hw, rfl⟩ := C
  subst hp
  have A' := A
  obtain ⟨cl, A, r⟩ := A
  intro T locs X hT hF
  obtain ⟨T', h', X', e', W', s'⟩ := stD X hx hZ hT A (hj.bound r hi) (g := mkF m pc ls (.double x :: .int j :: .ref a :: st)) rfl rfl (hb hby hd)
  rw [hj.2] at W'
  obtain ⟨s₂, o, h1, h2⟩ := hr h' W' (A'.same W') T' _ X' e' (Fr.snoc X' hF ga)
  exact ⟨s₂, o, s' _ h1, h2⟩
theorem Cx.newarray (C : Cx G l Z a0 ws R y bytes maxL ret n0 Q) {w : Nat} {aty : ArrayType} {ty : FieldType} {d : Value} {vs : List Value} {len : Int32} {N cap : Nat} (hty : newarray.typeOf aty = ty) (hwd : ws[w]? = some (Jvm.Cond.arrayClass ty)) (hj : Idx len N) (hdv : defaultValue ty = d) (hvs : List.replicate N d = vs) (hcap : N ≤ cap) (hb8 : cap * 8 ≤ 536870912) (hc : k + 1 ≤ R.cells) (hl : n + cap ≤ R.slots) (hd : decode bytes pc = .ok (.newarray aty, 2)) (hp : pc + 2 = pc')
    (hr : ∀ h' a, a = h.size → Ext h h' → Lst Z h' a ty vs → G h' (k + 1) (n + cap) pc' ls (.ref a :: st)) : G h k n pc ls (.int len :: st) := by
  obtain ⟨p, e, s, m, args, below, meth, c, hx, hby, hml, hown, hnm, hret, hlk, hZ, hw, rfl⟩ := C
  subst hp hty hdv hvs
  intro T locs X hT hF
  obtain ⟨T', h', cA, X', e', E', A', s'⟩ := newP X hx hZ (word hw hwd) hT (g := mkF m pc ls (.int len :: st)) rfl (hb hby hd) rfl hj.1 (cap := cap) (by rw [hj.2]; exact hcap) hb8 hc hl
  obtain ⟨s₂, o, h1, h2⟩ := hr h' h.size rfl E' ⟨_, A', by simp [newA, hj.2]⟩ T' _ X' e' hF
  exact ⟨s₂, o, s' _ h1, h2⟩
theorem Cx.newO (C : Cx G l Z a0 ws R y bytes maxL ret n0 Q) {i1 i2 i3 idx nn : Nat} {K : String} (w1 : ws[i1]? = some (Jvm.Cond.classLink y.cls idx K)) (w2 : ws[i2]? = some (Jvm.Cond.instantiable K nn)) (w3 : ws[i3]? = some (Jvm.Cond.initialized K)) (hc : k + 1 ≤ R.cells) (hl : n + nn ≤ R.slots) (hd : decode bytes pc = .ok (.new idx, 3)) (hp : pc + 3 = pc')
    (hr : ∀ h' a, a = h.size → Ext h h' → Exa Z h' a K → (∀ {O nm d : String} {ty : FieldType}, Laid Z a0 K O nm d → parseFieldDescriptor d = some ty → Fld Z h' a O nm d (defaultValue ty)) → G h' (k + 1) (n + nn) pc' ls (.ref a :: st)) : G h k n pc ls st := by
  obtain ⟨p, e, s, m, args, below, meth, c, hx, hby, hml, hown, hnm, hret, hlk, hZ, hw, rfl⟩ := C
  subst hp
  intro T locs X hT hF
  obtain ⟨T', h', X', e', E', A', D', -, s'⟩ := RoadKit.newO X hx hZ hown (word hw w1) (word hw w2) (word hw w3) hT (g := mkF m pc ls st) rfl (hb hby hd) hc hl
  obtain ⟨s₂, o, h1, h2⟩ := hr h' h.size rfl E' A' D' T' _ X' e' hF
  exact ⟨s₂, o, s' _ h1, h2⟩
theorem Cx.getfield (C : Cx G l Z a0 ws R y bytes maxL ret n0 Q) {i idx : Nat} {O f d : String} {a : Addr} {v : Value} (w : ws[i]? = some (Jvm.Cond.fieldLink y.cls idx O f d)) (F : Fld Z h a O f d v) (hd : decode bytes pc = .ok (.getfield idx, 3)) (hp : pc + 3 = pc') (hr : G h k n pc' ls (v :: st)) : G h k n pc ls (.ref a :: st) := by
  obtain ⟨p, e, s, m, args, below, meth, c, hx, hby, hml, hown, hnm, hret, hlk, hZ, hw, rfl⟩ := C
  subst hp
  intro T locs X hT hF
  obtain ⟨T', X', e', s'⟩ := getF X hx hZ hown (host := "") (Or.inl (word hw w)) Via.refl hT F (g := mkF m pc ls (.ref a :: st)) rfl rfl (hb hby hd)
  obtain ⟨s₂, o, h1, h2⟩ := hr T' _ X' e' hF
  exact ⟨s₂, o, s' _ h1, h2⟩
theorem Cx.getstatic (C : Cx G l Z a0 ws R y bytes maxL ret n0 Q) {i idx : Nat} {O f d : String} {v : Value} (w : ws[i]? = some (Jvm.Cond.fieldLink y.cls idx O f d)) (F : Sta Z h O f d v) (hd : decode bytes pc = .ok (.getstatic idx, 3)) (hp : pc + 3 = pc') (hr : G h k n pc' ls (v :: st)) : G h k n pc ls st := by
  obtain ⟨p, e, s, m, args, below, meth, c, hx, hby, hml, hown, hnm, hret, hlk, hZ, hw, rfl⟩ := C
  subst hp
  intro T locs X hT hF
  obtain ⟨T', X', e', s'⟩ := getS X hx hZ (host := "") hown (word hw w) Via.refl hT F (g := mkF m pc ls st) rfl (hb hby hd)
  obtain ⟨s₂, o, h1, h2⟩ := hr T' _ X' e' hF
  exact ⟨s₂, o, s' _ h1, h2⟩
theorem Cx.putfield (C : Cx G l Z a0 ws R y bytes maxL ret n0 Q) {i i2 i3 idx kk : Nat} {O f d K : String} {a : Addr} {v v' old : Value} {ty : FieldType} (w : ws[i]? = some (Jvm.Cond.fieldLink y.cls idx O f d)) (w2 : ws[i2]? = some (Jvm.Cond.lays K O f d) ∨ (ws[i2]? = some (Jvm.Cond.laysFinal K O f d) ∧ y.cls = O ∧ y.name = "<init>")) (w3 : ws[i3]? = some (Jvm.Cond.instantiable K kk)) (F : Fld Z h a O f d old) (E : Exa Z h a K) (hty : parseFieldDescriptor d = some ty) (hnv : narrow ty v = v') (hfv : fits ty v' = true) (ga : n0 ≤ a) (hd : decode bytes pc = .ok (.putfield idx, 3)) (hp : pc + 3 = pc')
    (hr : ∀ h', Wr h h' a (Jvm.RoadKit.slotOf Z O f d) v' → G h' k n pc' ls st) : G h k n pc ls (v :: .ref a :: st) := by
  obtain ⟨p, e, s, m, args, below, meth, c, hx, hby, hml, hown, hnm, hret, hlk, hZ, hw, rfl⟩ := C
  subst hp
  intro T locs X hT hF
  obtain ⟨T', h', X', e', W', s'⟩ := putFN X hx hZ hown (word hw w) Via.refl hT F E (w2.elim (fun q => Or.inl (word hw q)) (fun q => Or.inr ⟨word hw q.1, q.2.1, hnm.trans q.2.2⟩)) (word hw w3) hty hnv hfv (g := mkF m pc ls (v :: .ref a :: st)) rfl rfl (hb hby hd)
  obtain ⟨s₂, o, h1, h2⟩ := hr h' W' T' _ X' e' (Fr.snoc X' hF ga)
  exact ⟨s₂, o, s' _ h1, h2⟩
theorem Cx.initO (C : Cx G l Z a0 ws R y bytes maxL ret n0 Q) {i1 i2 i3 idx W : Nat} {a : Addr} (w1 : ws[i1]? = some (Jvm.Cond.methodLink y.cls idx Lib.objectInit)) (w2 : ws[i2]? = some (Jvm.Cond.instanceMethod Lib.objectInit)) (w3 : ws[i3]? = some (Jvm.Cond.code Lib.objectInit Jvm.LibCode.Object.Init0.code 1 none)) (hsz : ls.size = maxL) (hf : 1 ≤ R.frames) (hW : (st.map fun v => v.category).sum = W) (hl : W + 12 ≤ R.locals) (hd : decode bytes pc = .ok (.invokespecial idx, 3)) (hp : pc + 3 = pc') (hr : G h k n pc' ls st) : G h k n pc ls (.ref a :: st) := by
  obtain ⟨p, e, s, m, args, below, meth, c, hx, hby, hml, hown, hnm, hret, hlk, hZ, hw, rfl⟩ := C
  subst hp
  intro T locs X hT hF
  obtain ⟨T', X', e', s'⟩ := RoadKit.initO X hx hZ hown (word hw w1) (word hw w2) (word hw w3) hT (g := mkF m pc ls (.ref a :: st)) rfl (by rw [hml]; exact hsz) rfl (hb hby hd) hf (W := W) (by rw [← hW]; show 2 * 0 + _ ≤ _; omega) hl
  obtain ⟨s₂, o, h1, h2⟩ := hr T' _ X' e' hF
  exact ⟨s₂, o, s' _ h1, h2⟩
theorem Cx.callS (C : Cx G l Z a0 ws R y bytes maxL ret n0 Q) {y' : MethodName} {bytes' : ByteArray} {maxL' : Nat} {ret' : Option FieldType} {rm : Room} {as : Array Value} {Q' : Option Value → Heap → Prop} (hM : Ctr l Z y' bytes' maxL' ret' rm n0 as h Q' []) {i1 i2 i3 i4 idx W : Nat} (w1 : ws[i1]? = some (Jvm.Cond.methodLink y.cls idx y')) (w2 : ws[i2]? = some (Jvm.Cond.static y')) (w3 : ws[i3]? = some (Jvm.Cond.initialized y'.cls)) (w4 : ws[i4]? = some (Jvm.Cond.code y' bytes' maxL' ret'))
    (hy : y'.cls ≠ "java/lang/invoke/MethodHandle" ∧ y'.cls ≠ "java/lang/invoke/VarHandle") {argsL : List Value} {ps : List FieldType} {rt : Option FieldType} (hps : parseMethodDescriptor y'.desc = some ⟨ps, rt⟩) (hln : argsL.length = ps.length) (has : argsL.toArray = as) (hst : st = argsL.reverse ++ rest) (hsz : ls.size = maxL) (hW : (rest.map fun v => v.category).sum = W) (hf : rm.frames + 1 ≤ R.frames) (hl : W + (maxL' + 11) + rm.locals ≤ R.locals) (hc : k + rm.cells ≤ R.cells) (hn : n + rm.slots ≤ R.slots) (hd : decode bytes pc = .ok (.invokestatic idx, 3)) (hp : pc + 3 = pc') (hk' : k + rm.cells = k') (hn' : n + rm.slots = n')
    (hr : ∀ v h', Q' v h' → G h' k' n' pc' ls (v.toList ++ rest)) : G h k n pc ls st := by
  obtain ⟨p, e, s, m, args, below, meth, c, hx, hby, hml, hown, hnm, hret, hlk, hZ, hw, rfl⟩ := C
  subst hp has hst hk' hn'
  intro T locs X hT hF
  obtain ⟨v, _, ⟨T', L', k9, n9⟩, -, X', ⟨Lc, hQ, e1, e2, e3⟩, s'⟩ := Jvm.LawKit.callS X hx (y := y') hown (mvT hZ (word hw w1)) (mvT hZ (word hw w2)) (mvT hZ (word hw w3)) (mvT hZ (word hw w4)) hy (backOf (Q := fun v h L => Q' v h ∧ Fr n0 L) (W := W) hM hZ (word hw w4) (word hw w3) hf hl) (g := mkF m pc ls (argsL.reverse ++ rest)) rfl (by rw [hml]; exact hsz) (argsL := argsL) (rest := rest) (lenOf hps hln) rfl (by rw [← hW]; show 2 * 0 + _ ≤ _; omega) (hb hby hd) (fun _ _ => ⟨rfl, hT, hc, hn⟩)
  dsimp only [Pt.U, Pt.locs, Pt.cells, Pt.slots] at X' e1 e2 e3 s' hQ
  subst e1 e2 e3
  obtain ⟨s₂, o, h1, h2⟩ := hr v T'.heap hQ.1 T' _ X' rfl (Fr.app hF hQ.2)
  exact ⟨s₂, o, s' _ h1, h2⟩
theorem Cx.callI (C : Cx G l Z a0 ws R y bytes maxL ret n0 Q) {y' : MethodName} {bytes' : ByteArray} {maxL' : Nat} {rm : Room} {as : Array Value} {Q' : Option Value → Heap → Prop} {a : Addr} (hM : Ctr l Z y' bytes' maxL' none rm n0 as h Q' []) {i1 i2 i3 i4 idx W : Nat} (w1 : ws[i1]? = some (Jvm.Cond.methodLink y.cls idx y')) (w2 : ws[i2]? = some (Jvm.Cond.instanceMethod y')) (w3 : ws[i3]? = some (Jvm.Cond.initialized y'.cls)) (w4 : ws[i4]? = some (Jvm.Cond.code y' bytes' maxL' none)) (hi : y'.name = "<init>")
    (hy : y'.cls ≠ "java/lang/invoke/MethodHandle" ∧ y'.cls ≠ "java/lang/invoke/VarHandle") {argsL : List Value} {ps : List FieldType} {rt : Option FieldType} (hps : parseMethodDescriptor y'.desc = some ⟨ps, rt⟩) (hln : argsL.length = ps.length) (has : (.ref a :: argsL).toArray = as) (hst : st = argsL.reverse ++ .ref a :: rest) (hsz : ls.size = maxL) (hW : (rest.map fun v => v.category).sum = W) (hf : rm.frames + 1 ≤ R.frames) (hl : W + (maxL' + 11) + rm.locals ≤ R.locals) (hc : k + rm.cells ≤ R.cells) (hn : n + rm.slots ≤ R.slots) (hd : decode bytes pc = .ok (.invokespecial idx, 3)) (hp : pc + 3 = pc') (hk' : k + rm.cells = k') (hn' : n + rm.slots = n')
    (hr : ∀ v h', Q' v h' → G h' k' n' pc' ls (v.toList ++ rest)) : G h k n pc ls st := by
  obtain ⟨p, e, s, m, args, below, meth, c, hx, hby, hml, hown, hnm, hret, hlk, hZ, hw, rfl⟩ := C
  subst hp has hst hk' hn'
  intro T locs X hT hF
  obtain ⟨v, _, ⟨T', L', k9, n9⟩, -, X', ⟨Lc, hQ, e1, e2, e3⟩, s'⟩ := X.specialBack hx (y := y') hi hown (mvT hZ (word hw w1)) (mvT hZ (word hw w2)) (mvT hZ (word hw w4)) hy (backOf (Q := fun v h L => Q' v h ∧ Fr n0 L) (W := W) hM hZ (word hw w4) (word hw w3) hf hl) (g := mkF m pc ls (argsL.reverse ++ .ref a :: rest)) rfl (by rw [hml]; exact hsz) (Steps.refl _) (a := a) (argsL := argsL) (rest := rest) (lenOf hps hln) rfl (by rw [← hW]; show 2 * 0 + _ ≤ _; omega) (hb hby hd) (fun _ _ => ⟨rfl, hT, hc, hn⟩)
  dsimp only [Pt.U, Pt.locs, Pt.cells, Pt.slots] at X' e1 e2 e3 s' hQ
  subst e1 e2 e3
  obtain ⟨s₂, o, h1, h2⟩ := hr v T'.heap hQ.1 T' _ X' rfl (Fr.app hF hQ.2)
  exact ⟨s₂, o, s'.trans h1, h2⟩
theorem Cx.callV (C : Cx G l Z a0 ws R y bytes maxL ret n0 Q) {y' : MethodName} {bytes' : ByteArray} {maxL' : Nat} {ret' : Option FieldType} {rm : Room} {as : Array Value} {Q' : Option Value → Heap → Prop} {a : Addr} {K : String} (hM : Ctr l Z y' bytes' maxL' ret' rm n0 as h Q' []) (hE : Exa Z h a K) {i1 i2 i3 i4 i5 i6 idx W : Nat} (w1 : ws[i1]? = some (Jvm.Cond.methodLink y.cls idx y')) (w2 : ws[i2]? = some (Jvm.Cond.declares y')) (w3 : ws[i3]? = some (Jvm.Cond.instanceMethod y')) (w4 : ws[i4]? = some (Jvm.Cond.selects K y' y')) (w5 : ws[i5]? = some (Jvm.Cond.code y' bytes' maxL' ret')) (w6 : ws[i6]? = some (Jvm.Cond.initialized y'.cls))
    (hy : y'.cls ≠ "java/lang/invoke/MethodHandle" ∧ y'.cls ≠ "java/lang/invoke/VarHandle") {argsL : List Value} {ps : List FieldType} {rt : Option FieldType} (hps : parseMethodDescriptor y'.desc = some ⟨ps, rt⟩) (hln : argsL.length = ps.length) (has : (.ref a :: argsL).toArray = as) (hst : st = argsL.reverse ++ .ref a :: rest) (hsz : ls.size = maxL) (hW : (rest.map fun v => v.category).sum = W) (hf : rm.frames + 1 ≤ R.frames) (hl : W + (maxL' + 11) + rm.locals ≤ R.locals) (hc : k + rm.cells ≤ R.cells) (hn : n + rm.slots ≤ R.slots) (hd : decode bytes pc = .ok (.invokevirtual idx, 3)) (hp : pc + 3 = pc') (hk' : k + rm.cells = k') (hn' : n + rm.slots = n')
    (hr : ∀ v h', Q' v h' → G h' k' n' pc' ls (v.toList ++ rest)) : G h k n pc ls st := by
  obtain ⟨p, e, s, m, args, below, meth, c, hx, hby, hml, hown, hnm, hret, hlk, hZ, hw, rfl⟩ := C
  subst hp has hst hk' hn'
  intro T locs X hT hF
  obtain ⟨cq, kq, qa, qb, qc⟩ := isOf hZ hT hE
  obtain ⟨v, _, ⟨T', L', k9, n9⟩, -, X', ⟨Lc, hQ, e1, e2, e3⟩, s'⟩ := X.virtualBack hx (y := y') (z := y') hown (mvT hZ (word hw w1)) (mvT hZ (word hw w2)) (notFace_of_selects (args := #[]) (mvT hZ (word hw w4))) (mvT hZ (word hw w4)) (mvT hZ (word hw w3)) hy (backOf (Q := fun v h L => Q' v h ∧ Fr n0 L) (W := W) hM hZ (word hw w5) (word hw w6) hf hl) qa qc (g := mkF m pc ls (argsL.reverse ++ .ref a :: rest)) rfl (by rw [hml]; exact hsz) (Steps.refl _) (argsL := argsL) (rest := rest) (lenOf hps hln) rfl (by rw [← hW]; show 2 * 0 + _ ≤ _; omega) (hb hby hd) (fun _ _ => ⟨rfl, hT, hc, hn⟩)
  dsimp only [Pt.U, Pt.locs, Pt.cells, Pt.slots] at X' e1 e2 e3 s' hQ
  subst e1 e2 e3
  obtain ⟨s₂, o, h1, h2⟩ := hr v T'.heap hQ.1 T' _ X' rfl (Fr.app hF hQ.2)
  exact ⟨s₂, o, s'.trans h1, h2⟩
theorem Cx.callSP (C : Cx G l Z a0 ws R y bytes maxL ret n0 Q) {y' : MethodName} {bytes' : ByteArray} {maxL' : Nat} {ret' : Option FieldType} {rm : Room} {as : Array Value} {r : Value} (hM : Ctr l Z y' bytes' maxL' ret' rm n0 as h (fun v h' => v = some r ∧ h' = h) []) {i1 i2 i3 i4 idx W : Nat} (w1 : ws[i1]? = some (Jvm.Cond.methodLink y.cls idx y')) (w2 : ws[i2]? = some (Jvm.Cond.static y')) (w3 : ws[i3]? = some (Jvm.Cond.initialized y'.cls)) (w4 : ws[i4]? = some (Jvm.Cond.code y' bytes' maxL' ret'))
    (hy : y'.cls ≠ "java/lang/invoke/MethodHandle" ∧ y'.cls ≠ "java/lang/invoke/VarHandle") {argsL : List Value} {ps : List FieldType} {rt : Option FieldType} (hps : parseMethodDescriptor y'.desc = some ⟨ps, rt⟩) (hln : argsL.length = ps.length) (has : argsL.toArray = as) (hst : st = argsL.reverse ++ rest) (hsz : ls.size = maxL) (hW : (rest.map fun v => v.category).sum = W) (hf : rm.frames + 1 ≤ R.frames) (hl : W + (maxL' + 11) + rm.locals ≤ R.locals) (hc : k + rm.cells ≤ R.cells) (hn : n + rm.slots ≤ R.slots) (hd : decode bytes pc = .ok (.invokestatic idx, 3)) (hp : pc + 3 = pc') (hk' : k + rm.cells = k') (hn' : n + rm.slots = n')
    (hr : G h k' n' pc' ls (r :: rest)) : G h k n pc ls st :=
  C.callS hM w1 w2 w3 w4 hy hps hln has hst hsz hW hf hl hc hn hd hp hk' hn' (fun v h' q => by obtain ⟨rfl, rfl⟩ := q; exact hr)
theorem Cx.callVP (C : Cx G l Z a0 ws R y bytes maxL ret n0 Q) {y' : MethodName} {bytes' : ByteArray} {maxL' : Nat} {ret' : Option FieldType} {rm : Room} {as : Array Value} {r : Value} {a : Addr} {K : String} (hM : Ctr l Z y' bytes' maxL' ret' rm n0 as h (fun v h' => v = some r ∧ h' = h) []) (hE : Exa Z h a K) {i1 i2 i3 i4 i5 i6 idx W : Nat} (w1 : ws[i1]? = some (Jvm.Cond.methodLink y.cls idx y')) (w2 : ws[i2]? = some (Jvm.Cond.declares y')) (w3 : ws[i3]? = some (Jvm.Cond.instanceMethod y')) (w4 : ws[i4]? = some (Jvm.Cond.selects K y' y')) (w5 : ws[i5]? = some (Jvm.Cond.code y' bytes' maxL' ret')) (w6 : ws[i6]? = some (Jvm.Cond.initialized y'.cls))
    (hy : y'.cls ≠ "java/lang/invoke/MethodHandle" ∧ y'.cls ≠ "java/lang/invoke/VarHandle") {argsL : List Value} {ps : List FieldType} {rt : Option FieldType} (hps : parseMethodDescriptor y'.desc = some ⟨ps, rt⟩) (hln : argsL.length = ps.length) (has : (.ref a :: argsL).toArray = as) (hst : st = argsL.reverse ++ .ref a :: rest) (hsz : ls.size = maxL) (hW : (rest.map fun v => v.category).sum = W) (hf : rm.frames + 1 ≤ R.frames) (hl : W + (maxL' + 11) + rm.locals ≤ R.locals) (hc : k + rm.cells ≤ R.cells) (hn : n + rm.slots ≤ R.slots) (hd : decode bytes pc = .ok (.invokevirtual idx, 3)) (hp : pc + 3 = pc') (hk' : k + rm.cells = k') (hn' : n + rm.slots = n')
    (hr : G h k' n' pc' ls (r :: rest)) : G h k n pc ls st :=
  C.callV hM hE w1 w2 w3 w4 w5 w6 hy hps hln has hst hsz hW hf hl hc hn hd hp hk' hn' (fun v h' q => by obtain ⟨rfl, rfl⟩ := q; exact hr)
theorem Lst.arv {h : Heap} {a : Addr} {ty : FieldType} {vs : List Value} {z : Int32} {dv : Value} (F : Lst Z h a ty vs) (hz : Idx z vs.length) (hf : ∀ i, i < vs.length → fits ty (vs.getD i dv) = true) : ∃ kk, Arv Z h a kk ty z vs dv := by
  obtain ⟨c, A, r⟩ := F
  have hs : c.slots.size = vs.length := by rw [r]; simp
  refine ⟨c.cls, c, A, rfl, by rw [hs, hz.2], hz.1, fun i hi => ?_, fun i hi => hf i (by omega)⟩
  rw [r, List.getElem?_toArray, List.getD_eq_getElem?_getD, List.getElem?_eq_getElem (by omega)]; rfl
theorem Lst.of_arv {h : Heap} {a : Addr} {ty : FieldType} {vs : List Value} {z : Int32} {dv : Value} {kk : ClassId} (F : Arv Z h a kk ty z vs dv) (hz : Idx z vs.length) : Lst Z h a ty vs := by
  obtain ⟨c, A, -, hs, -, hh, -⟩ := F
  refine ⟨c, A, ?_⟩
  have hl : c.slots.size = vs.length := by rw [hs, hz.2]
  apply Array.ext
  · simpa using hl
  · intro i h1 h2
    have q := hh i h1
    rw [Array.getElem?_eq_getElem h1, List.getD_eq_getElem?_getD, List.getElem?_eq_getElem (by omega)] at q
    simpa using q
theorem Cx.arraycopy (C : Cx G l Z a0 ws R y bytes maxL ret n0 Q) {a b : Addr} {ty : FieldType} {vs vd us vs' : List Value} {sp dp nn za zb : Int32} {i j N W i1 i2 i3 i4 idx : Nat} {dv : Value} (w1 : ws[i1]? = some (Jvm.Cond.methodLink y.cls idx Jvm.Stand.acN)) (w2 : ws[i2]? = some (Jvm.Cond.native Jvm.Stand.acN)) (w3 : ws[i3]? = some (Jvm.Cond.static Jvm.Stand.acN)) (w4 : ws[i4]? = some (Jvm.Cond.initialized "java/lang/System"))
    (A : Lst Z h a ty vs) (B : Lst Z h b ty vd) (hA : Idx za vs.length) (hB : Idx zb vd.length) (fA : ∀ i, i < vs.length → fits ty (vs.getD i dv) = true) (fB : ∀ i, i < vd.length → fits ty (vd.getD i dv) = true) (hty : refKind ty = false) (hi : Idx sp i) (hj : Idx dp j) (hN : Idx nn N) (hl1 : i + N ≤ vs.length) (hl2 : j + N ≤ vd.length) (hus : (List.range N).map (fun x => vs.getD (i + x) dv) = us) (hvs : vd.take j ++ us ++ vd.drop (j + N) = vs') (ga : n0 ≤ b) (hsz : ls.size = maxL) (hf : 1 ≤ R.frames) (hW : (st.map fun v => v.category).sum = W) (hlo : W + (nativeFrameWords "java/lang/System" "arraycopy" 5 + 11) ≤ R.locals) (hd : decode bytes pc = .ok (.invokestatic idx, 3)) (hp : pc + 3 = pc')
    (hr : ∀ h', Keep h h' [b] → Lst Z h' b ty vs' → G h' k n pc' ls st) : G h k n pc ls (.int nn :: .int dp :: .ref b :: .int sp :: .ref a :: st) := by
  obtain ⟨p, e, s, m, args, below, meth, c, hx, hby, hml, hown, hnm, hret, hlk, hZ, hw, rfl⟩ := C
  subst hp hus hvs
  intro T locs X hT hF
  obtain ⟨ka, A'⟩ := A.arv hA fA
  obtain ⟨kb, B'⟩ := B.arv hB fB
  obtain ⟨T', h', L', X', e', F', K', V', s'⟩ := cpA X hx hZ hown (word hw w1) (word hw w2) (word hw w3) (word hw w4) hT A' B' (Or.inl ⟨rfl, hty⟩) hi.1 hj.1 hN.1 (by rw [hi.2, hN.2, hA.2]; exact hl1) (by rw [hj.2, hN.2, hB.2]; exact hl2) (us := (List.range N).map (fun x => vs.getD (i + x) dv)) (by rw [hi.2, hN.2]) (by rw [hj.2, hN.2]; exact hl2) hF ga (g := mkF m pc ls (.int nn :: .int dp :: .ref b :: .int sp :: .ref a :: st)) rfl (by rw [hml]; exact hsz) rfl (hb hby hd) hf (W := W) (by rw [← hW]; show 2 * 0 + _ ≤ _; omega) hlo
  rw [hj.2, hN.2] at V'
  obtain ⟨s₂, o, h1, h2⟩ := hr h' K' (Lst.of_arv V' ⟨hB.1, by rw [hB.2]; simp; omega⟩) T' _ X' e' F'
  exact ⟨s₂, o, s' _ h1, h2⟩
end Laws
end Jvm.GoKit
namespace Jvm.Pilot.@@N@@
open Jvm Jvm.ClassFile Sem Op Lib Jvm.Free Jvm.Stand Jvm.LawKit Jvm.RoadKit Jvm.GoKit Bundle Jvm.Pilot.@@N@@.Jvm.D
theorem own_ne16 {s : Int32} {i : Nat} (hj : Idx s i) (hi : i < 16) : ¬ s = 16 := fun q => by
  have := hj.int; rw [q] at this; have : (16 : Int32).toInt = 16 := rfl; omega
theorem own_k (x : Int32) : ∃ v, (x &&& 3) % 3 + 1 = v ∧ (v = 1 ∨ v = 2 ∨ v = 3) := by
  have a := c_mask x 3 2 (by decide) (by decide)
  have b := (c_irem (x &&& 3) 3 3 rfl).1 (by omega)
  have c := c_iadd ((x &&& 3) % 3) 1
  have d := rng32 ((x &&& 3) % 3 + 1)
  have e : (1 : Int32).toInt = 1 := rfl
  have f : (2 : Int32).toInt = 2 := rfl
  have g : (3 : Int32).toInt = 3 := rfl
  refine ⟨_, rfl, ?_⟩
  rw [← Int32.toInt_inj, ← Int32.toInt_inj, ← Int32.toInt_inj]
  omega
theorem own_ltN {s : Int32} {i : Nat} (hj : Idx s i) (hi : i < 16) : s < 16 := by
  rw [Int32.lt_iff_toInt_lt, hj.int]; have : (16 : Int32).toInt = 16 := rfl; omega
theorem own_fit (vs : List Value) (h : ∀ v ∈ vs, fits .int v = true) : ∀ i, i < vs.length → fits .int (vs.getD i (.int (0 : Int32))) = true := fun i hi => by
  rw [List.getD_eq_getElem?_getD, List.getElem?_eq_getElem hi]; exact h _ (List.getElem_mem hi)
theorem d1_0 : decode prog_5_method_1_code 0 = .ok (.aload_n 0, 1) := by decide +kernel
theorem d1_1 : decode prog_5_method_1_code 1 = .ok (.invokespecial 1, 3) := by decide +kernel
theorem d1_4 : decode prog_5_method_1_code 4 = .ok (.aload_n 0, 1) := by decide +kernel
theorem d1_5 : decode prog_5_method_1_code 5 = .ok (.bipush 16, 2) := by decide +kernel
theorem d1_7 : decode prog_5_method_1_code 7 = .ok (.newarray .int, 2) := by decide +kernel
theorem d1_9 : decode prog_5_method_1_code 9 = .ok (.putfield 7, 3) := by decide +kernel
theorem d1_12 : decode prog_5_method_1_code 12 = .ok (.return_, 1) := by decide +kernel
theorem d3_0 : decode prog_5_method_2_code 0 = .ok (.aload_n 0, 1) := by decide +kernel
theorem d3_1 : decode prog_5_method_2_code 1 = .ok (.getfield 13, 3) := by decide +kernel
theorem d3_4 : decode prog_5_method_2_code 4 = .ok (.aload_n 0, 1) := by decide +kernel
theorem d3_5 : decode prog_5_method_2_code 5 = .ok (.getfield 7, 3) := by decide +kernel
theorem d3_8 : decode prog_5_method_2_code 8 = .ok (.arraylength, 1) := by decide +kernel
theorem d3_9 : decode prog_5_method_2_code 9 = .ok (.if_icmp .ne 20, 3) := by decide +kernel
theorem d3_12 : decode prog_5_method_2_code 12 = .ok (.aload_n 0, 1) := by decide +kernel
theorem d3_13 : decode prog_5_method_2_code 13 = .ok (.aload_n 0, 1) := by decide +kernel
theorem d3_14 : decode prog_5_method_2_code 14 = .ok (.getfield 7, 3) := by decide +kernel
theorem d3_17 : decode prog_5_method_2_code 17 = .ok (.iconst 2, 1) := by decide +kernel
theorem d3_18 : decode prog_5_method_2_code 18 = .ok (.aload_n 0, 1) := by decide +kernel
theorem d3_19 : decode prog_5_method_2_code 19 = .ok (.getfield 13, 3) := by decide +kernel
theorem d3_22 : decode prog_5_method_2_code 22 = .ok (.imul, 1) := by decide +kernel
theorem d3_23 : decode prog_5_method_2_code 23 = .ok (.invokestatic 17, 3) := by decide +kernel
theorem d3_26 : decode prog_5_method_2_code 26 = .ok (.putfield 7, 3) := by decide +kernel
theorem d3_29 : decode prog_5_method_2_code 29 = .ok (.aload_n 0, 1) := by decide +kernel
theorem d3_30 : decode prog_5_method_2_code 30 = .ok (.getfield 7, 3) := by decide +kernel
theorem d3_33 : decode prog_5_method_2_code 33 = .ok (.aload_n 0, 1) := by decide +kernel
theorem d3_34 : decode prog_5_method_2_code 34 = .ok (.getfield 13, 3) := by decide +kernel
theorem d3_37 : decode prog_5_method_2_code 37 = .ok (.iload_n 1, 1) := by decide +kernel
theorem d3_38 : decode prog_5_method_2_code 38 = .ok (.iastore, 1) := by decide +kernel
theorem d3_39 : decode prog_5_method_2_code 39 = .ok (.aload_n 0, 1) := by decide +kernel
theorem d3_40 : decode prog_5_method_2_code 40 = .ok (.dup, 1) := by decide +kernel
theorem d3_41 : decode prog_5_method_2_code 41 = .ok (.getfield 13, 3) := by decide +kernel
theorem d3_44 : decode prog_5_method_2_code 44 = .ok (.iconst 1, 1) := by decide +kernel
theorem d3_45 : decode prog_5_method_2_code 45 = .ok (.iadd, 1) := by decide +kernel
theorem d3_46 : decode prog_5_method_2_code 46 = .ok (.putfield 13, 3) := by decide +kernel
theorem d3_49 : decode prog_5_method_2_code 49 = .ok (.return_, 1) := by decide +kernel
theorem d4_0 : decode prog_5_method_5_code 0 = .ok (.aload_n 0, 1) := by decide +kernel
theorem d4_1 : decode prog_5_method_5_code 1 = .ok (.getfield 7, 3) := by decide +kernel
theorem d4_4 : decode prog_5_method_5_code 4 = .ok (.aload_n 0, 1) := by decide +kernel
theorem d4_5 : decode prog_5_method_5_code 5 = .ok (.getfield 13, 3) := by decide +kernel
theorem d4_8 : decode prog_5_method_5_code 8 = .ok (.iconst 1, 1) := by decide +kernel
theorem d4_9 : decode prog_5_method_5_code 9 = .ok (.isub, 1) := by decide +kernel
theorem d4_10 : decode prog_5_method_5_code 10 = .ok (.iload_n 1, 1) := by decide +kernel
theorem d4_11 : decode prog_5_method_5_code 11 = .ok (.iastore, 1) := by decide +kernel
theorem d4_12 : decode prog_5_method_5_code 12 = .ok (.return_, 1) := by decide +kernel
theorem d5_0 : decode prog_5_method_3_code 0 = .ok (.aload_n 0, 1) := by decide +kernel
theorem d5_1 : decode prog_5_method_3_code 1 = .ok (.getfield 13, 3) := by decide +kernel
theorem d5_4 : decode prog_5_method_3_code 4 = .ok (.ireturn, 1) := by decide +kernel
theorem d6_0 : decode prog_5_method_4_code 0 = .ok (.aload_n 0, 1) := by decide +kernel
theorem d6_1 : decode prog_5_method_4_code 1 = .ok (.getfield 7, 3) := by decide +kernel
theorem d6_4 : decode prog_5_method_4_code 4 = .ok (.aload_n 0, 1) := by decide +kernel
theorem d6_5 : decode prog_5_method_4_code 5 = .ok (.getfield 13, 3) := by decide +kernel
theorem d6_8 : decode prog_5_method_4_code 8 = .ok (.iconst 1, 1) := by decide +kernel
theorem d6_9 : decode prog_5_method_4_code 9 = .ok (.isub, 1) := by decide +kernel
theorem d6_10 : decode prog_5_method_4_code 10 = .ok (.iaload, 1) := by decide +kernel
theorem d6_11 : decode prog_5_method_4_code 11 = .ok (.ireturn, 1) := by decide +kernel
theorem d7_0 : decode prog_5_method_7_code 0 = .ok (.aload_n 0, 1) := by decide +kernel
theorem d7_1 : decode prog_5_method_7_code 1 = .ok (.getfield 7, 3) := by decide +kernel
theorem d7_4 : decode prog_5_method_7_code 4 = .ok (.aload_n 0, 1) := by decide +kernel
theorem d7_5 : decode prog_5_method_7_code 5 = .ok (.getfield 13, 3) := by decide +kernel
theorem d7_8 : decode prog_5_method_7_code 8 = .ok (.invokestatic 17, 3) := by decide +kernel
theorem d7_11 : decode prog_5_method_7_code 11 = .ok (.areturn, 1) := by decide +kernel
theorem d8_0 : decode jdk_65_method_123_code 0 = .ok (.iload_n 1, 1) := by decide +kernel
theorem d8_1 : decode jdk_65_method_123_code 1 = .ok (.aload_n 0, 1) := by decide +kernel
theorem d8_2 : decode jdk_65_method_123_code 2 = .ok (.arraylength, 1) := by decide +kernel
theorem d8_3 : decode jdk_65_method_123_code 3 = .ok (.if_icmp .ne 11, 3) := by decide +kernel
theorem d8_6 : decode jdk_65_method_123_code 6 = .ok (.aload_n 0, 1) := by decide +kernel
theorem d8_7 : decode jdk_65_method_123_code 7 = .ok (.invokevirtual 316, 3) := by decide +kernel
theorem d8_10 : decode jdk_65_method_123_code 10 = .ok (.checkcast 317, 3) := by decide +kernel
theorem d8_13 : decode jdk_65_method_123_code 13 = .ok (.areturn, 1) := by decide +kernel
theorem d8_14 : decode jdk_65_method_123_code 14 = .ok (.iload_n 1, 1) := by decide +kernel
theorem d8_15 : decode jdk_65_method_123_code 15 = .ok (.newarray .int, 2) := by decide +kernel
theorem d8_17 : decode jdk_65_method_123_code 17 = .ok (.astore_n 2, 1) := by decide +kernel
theorem d8_18 : decode jdk_65_method_123_code 18 = .ok (.aload_n 0, 1) := by decide +kernel
theorem d8_19 : decode jdk_65_method_123_code 19 = .ok (.iconst 0, 1) := by decide +kernel
theorem d8_20 : decode jdk_65_method_123_code 20 = .ok (.aload_n 2, 1) := by decide +kernel
theorem d8_21 : decode jdk_65_method_123_code 21 = .ok (.iconst 0, 1) := by decide +kernel
theorem d8_22 : decode jdk_65_method_123_code 22 = .ok (.aload_n 0, 1) := by decide +kernel
theorem d8_23 : decode jdk_65_method_123_code 23 = .ok (.arraylength, 1) := by decide +kernel
theorem d8_24 : decode jdk_65_method_123_code 24 = .ok (.iload_n 1, 1) := by decide +kernel
theorem d8_25 : decode jdk_65_method_123_code 25 = .ok (.invokestatic 304, 3) := by decide +kernel
theorem d8_28 : decode jdk_65_method_123_code 28 = .ok (.invokestatic 150, 3) := by decide +kernel
theorem d8_31 : decode jdk_65_method_123_code 31 = .ok (.aload_n 2, 1) := by decide +kernel
theorem d8_32 : decode jdk_65_method_123_code 32 = .ok (.areturn, 1) := by decide +kernel
theorem d9_0 : decode jdk_29_method_69_code 0 = .ok (.iload_n 0, 1) := by decide +kernel
theorem d9_1 : decode jdk_29_method_69_code 1 = .ok (.iload_n 1, 1) := by decide +kernel
theorem d9_2 : decode jdk_29_method_69_code 2 = .ok (.if_icmp .gt 7, 3) := by decide +kernel
theorem d9_5 : decode jdk_29_method_69_code 5 = .ok (.iload_n 0, 1) := by decide +kernel
theorem d9_6 : decode jdk_29_method_69_code 6 = .ok (.goto 4, 3) := by decide +kernel
theorem d9_9 : decode jdk_29_method_69_code 9 = .ok (.iload_n 1, 1) := by decide +kernel
theorem d9_10 : decode jdk_29_method_69_code 10 = .ok (.ireturn, 1) := by decide +kernel
theorem pd_0 : parseMethodDescriptor "(II)I" = some ⟨[.int, .int], some .int⟩ := by decide +kernel
theorem pd_1 : parseMethodDescriptor "([II)[I" = some ⟨[(.array .int), .int], some (.array .int)⟩ := by decide +kernel
theorem pd_2 : parseMethodDescriptor "()V" = some ⟨[], none⟩ := by decide +kernel
theorem pd_3 : parseMethodDescriptor "(I)V" = some ⟨[.int], none⟩ := by decide +kernel
theorem pd_4 : parseMethodDescriptor "()I" = some ⟨[], some .int⟩ := by decide +kernel
theorem pd_5 : parseMethodDescriptor "()[I" = some ⟨[], some (.array .int)⟩ := by decide +kernel
set_option maxRecDepth 65536 in
set_option maxHeartbeats 4000000 in
theorem c_init (l : Launch) (Z : State) (a0 : Array Value) (hw : ∀ d ∈ tables_1, d.before a0 Z = true) (wl : List Jvm.Cond) (n0 : Nat) (h : Heap) (a : Addr) (hz : n0 ≤ h.size) (g_a : n0 ≤ a) (E_a : Exa Z h a "com/example/taintline/taintline/analysis/IntArray") (FN_a : Fld Z h a "com/example/taintline/taintline/analysis/IntArray" "numbers" "[I" .null) (FS_a : Fld Z h a "com/example/taintline/taintline/analysis/IntArray" "size" "I" (.int 0)) :
    Ctr l Z (⟨"com/example/taintline/taintline/analysis/IntArray", "<init>", "()V"⟩ : MethodName) prog_5_method_1_code 1 none ({ frames := 1, cells := 1, slots := 16, locals := 12 } : Room) n0 #[(.ref a)] h (fun v h' => v = none ∧ Keep h h' [a] ∧ ∃ t, n0 ≤ t ∧ a ≠ t ∧ Fld Z h' a "com/example/taintline/taintline/analysis/IntArray" "numbers" "[I" (.ref t) ∧ Fld Z h' a "com/example/taintline/taintline/analysis/IntArray" "size" "I" (.int 0) ∧ Lst Z h' t .int [(.int (0 : Int32)), (.int (0 : Int32)), (.int (0 : Int32)), (.int (0 : Int32)), (.int (0 : Int32)), (.int (0 : Int32)), (.int (0 : Int32)), (.int (0 : Int32)), (.int (0 : Int32)), (.int (0 : Int32)), (.int (0 : Int32)), (.int (0 : Int32)), (.int (0 : Int32)), (.int (0 : Int32)), (.int (0 : Int32)), (.int (0 : Int32))]) wl := by
  refine Ctr.of (ls := #[.val (.ref a)]) (by first | (exact plainFor_of_name (by first | (simp [plainName, overriddenIn]; done) | decide +kernel)) | decide +kernel) hw (fun m => entry_eq m (L1 := [.val (.ref a)]) (k := 0) rfl rfl rfl) (fun G C => ?_)
  have K := Keep.refl h [a]
  refine C.aloadN d1_0 rfl (pc' := 1) rfl ?_
  refine C.initO (i1 := 6) (i2 := 7) (i3 := 8) rfl rfl rfl rfl (by decide) (W := 0) rfl (by decide) d1_1 (pc' := 4) rfl ?_
  refine C.aloadN d1_4 rfl (pc' := 5) rfl ?_
  refine C.bipush d1_5 (v := 16) rfl (pc' := 7) rfl ?_
  refine C.newarray (w := 9) (ty := .int) rfl rfl (N := 16) ⟨by decide, by decide⟩ (d := (.int (0 : Int32))) rfl (vs := [(.int (0 : Int32)), (.int (0 : Int32)), (.int (0 : Int32)), (.int (0 : Int32)), (.int (0 : Int32)), (.int (0 : Int32)), (.int (0 : Int32)), (.int (0 : Int32)), (.int (0 : Int32)), (.int (0 : Int32)), (.int (0 : Int32)), (.int (0 : Int32)), (.int (0 : Int32)), (.int (0 : Int32)), (.int (0 : Int32)), (.int (0 : Int32))]) rfl (cap := 16) (by decide) (by decide) (by decide) (by decide) d1_7 (pc' := 9) rfl ?_
  intro h1 o2 q3 E4 V_o2
  have ne_a_o2 : a ≠ o2 := Nat.ne_of_lt (Nat.lt_of_lt_of_le E_a.lt (Nat.le_of_eq q3.symm))
  have E_a := E_a.ext E4
  have FN_a := FN_a.ext E4
  have FS_a := FS_a.ext E4
  have g_o2 : n0 ≤ o2 := Nat.le_trans hz (Nat.le_of_eq q3.symm)
  have hz := Nat.le_trans hz E4.1
  have sz_o2 : h.size ≤ o2 := Nat.le_trans K.1 (Nat.le_of_eq q3.symm)
  have K := K.ext E4
  refine C.putfield (i := 10) (i2 := 11) (i3 := 1) rfl (Or.inl rfl) rfl FN_a E_a (ty := (.array .int)) (by decide) (v' := (.ref o2)) rfl rfl g_a d1_9 (pc' := 12) rfl ?_
  intro h5 W6
  have E_a := E_a.wr W6
  have FN_a := FN_a.same W6
  have FS_a := FS_a.other W6 (Or.inr (slot_ne (Or.inl (hw _ (List.mem_of_getElem? (i := 18) rfl))) (Or.inl (hw _ (List.mem_of_getElem? (i := 11) rfl))) (by decide) (t := .int) (t' := (.array .int)) (by decide) (by decide)))
  have V_o2 := V_o2.other W6 ne_a_o2.symm
  have hz : n0 ≤ _ := Nat.le_trans hz (Nat.le_of_eq W6.size.symm)
  have K := K.wr W6 (Or.inl (by simp))
  exact C.vreturn d1_12 rfl (by decide) (by decide) ⟨rfl, K, o2, g_o2, ne_a_o2, FN_a, FS_a, V_o2⟩
set_option maxRecDepth 65536 in
set_option maxHeartbeats 4000000 in
theorem c_add (l : Launch) (Z : State) (a0 : Array Value) (hw : ∀ d ∈ tables_1, d.before a0 Z = true) (wl : List Jvm.Cond) (n0 : Nat) (h : Heap) (a t : Addr) (vs vs' : List Value) (s s' x : Int32) (i : Nat) (hz : n0 ≤ h.size) (g_a : n0 ≤ a) (g_t : n0 ≤ t) (ne_at : a ≠ t) (E_a : Exa Z h a "com/example/taintline/taintline/analysis/IntArray") (FN_a : Fld Z h a "com/example/taintline/taintline/analysis/IntArray" "numbers" "[I" (.ref t)) (FS_a : Fld Z h a "com/example/taintline/taintline/analysis/IntArray" "size" "I" (.int s)) (V_t : Lst Z h t .int vs) (hlen : vs.length = 16) (hi : Idx s i) (hi16 : i < 16) (hs : s + 1 = s') (hvs : vs.set i (.int x) = vs') :
    Ctr l Z (⟨"com/example/taintline/taintline/analysis/IntArray", "add", "(I)V"⟩ : MethodName) prog_5_method_2_code 2 none ({ frames := 0, cells := 0, slots := 0, locals := 0 } : Room) n0 #[(.ref a), (.int x)] h (fun v h' => v = none ∧ Keep h h' [a, t] ∧ Fld Z h' a "com/example/taintline/taintline/analysis/IntArray" "numbers" "[I" (.ref t) ∧ Fld Z h' a "com/example/taintline/taintline/analysis/IntArray" "size" "I" (.int s') ∧ Lst Z h' t .int vs') wl := by
  refine Ctr.of (ls := #[.val (.ref a), .val (.int x)]) (by first | (exact plainFor_of_name (by first | (simp [plainName, overriddenIn]; done) | decide +kernel)) | decide +kernel) hw (fun m => entry_eq m (L1 := [.val (.ref a), .val (.int x)]) (k := 0) rfl rfl rfl) (fun G C => ?_)
  have K := Keep.refl h [a, t]
  refine C.aloadN d3_0 rfl (pc' := 1) rfl ?_
  refine C.getfield (i := 17) rfl FS_a d3_1 (pc' := 4) rfl ?_
  refine C.aloadN d3_4 rfl (pc' := 5) rfl ?_
  refine C.getfield (i := 10) rfl FN_a d3_5 (pc' := 8) rfl ?_
  refine C.arraylength V_t (N := 16) (by rw [hlen]; rfl) d3_8 (pc' := 9) rfl ?_
  refine C.icmp_ne_T d3_9 (own_ne16 hi hi16) (by decide) (pc' := 29) rfl ?_
  refine C.aloadN d3_29 rfl (pc' := 30) rfl ?_
  refine C.getfield (i := 10) rfl FN_a d3_30 (pc' := 33) rfl ?_
  refine C.aloadN d3_33 rfl (pc' := 34) rfl ?_
  refine C.getfield (i := 17) rfl FS_a d3_34 (pc' := 37) rfl ?_
  refine C.iloadN d3_37 rfl (pc' := 38) rfl ?_
  refine C.iastore V_t (i := i) hi (by omega) (vs' := vs') hvs g_t d3_38 (pc' := 39) rfl ?_
  intro h7 W8 V_t
  have E_a := E_a.wr W8
  have FN_a := FN_a.other W8 (Or.inl ne_at)
  have FS_a := FS_a.other W8 (Or.inl ne_at)
  have hz : n0 ≤ _ := Nat.le_trans hz (Nat.le_of_eq W8.size.symm)
  have K := K.wr W8 (Or.inl (by simp))
  refine C.aloadN d3_39 rfl (pc' := 40) rfl ?_
  refine C.dup d3_40 rfl (pc' := 41) rfl ?_
  refine C.getfield (i := 17) rfl FS_a d3_41 (pc' := 44) rfl ?_
  refine C.iconst d3_44 (v := 1) rfl (pc' := 45) rfl ?_
  refine C.iadd d3_45 (pc' := 46) rfl ?_
  refine castI (show (s + (1 : Int32)) = s' from hs) ?_
  refine C.putfield (i := 17) (i2 := 18) (i3 := 1) rfl (Or.inl rfl) rfl FS_a E_a (ty := .int) (by decide) (v' := (.int s')) rfl rfl g_a d3_46 (pc' := 49) rfl ?_
  intro h9 W10
  have E_a := E_a.wr W10
  have FN_a := FN_a.other W10 (Or.inr (slot_ne (Or.inl (hw _ (List.mem_of_getElem? (i := 11) rfl))) (Or.inl (hw _ (List.mem_of_getElem? (i := 18) rfl))) (by decide) (t := (.array .int)) (t' := .int) (by decide) (by decide)))
  have FS_a := FS_a.same W10
  have V_t := V_t.other W10 ne_at.symm
  have hz : n0 ≤ _ := Nat.le_trans hz (Nat.le_of_eq W10.size.symm)
  have K := K.wr W10 (Or.inl (by simp))
  exact C.vreturn d3_49 rfl (by decide) (by decide) ⟨rfl, K, FN_a, FS_a, V_t⟩
set_option maxRecDepth 65536 in
set_option maxHeartbeats 4000000 in
theorem c_size (l : Launch) (Z : State) (a0 : Array Value) (hw : ∀ d ∈ tables_1, d.before a0 Z = true) (wl : List Jvm.Cond) (n0 : Nat) (h : Heap) (a : Addr) (s : Int32) (FS_a : Fld Z h a "com/example/taintline/taintline/analysis/IntArray" "size" "I" (.int s)) :
    Ctr l Z (⟨"com/example/taintline/taintline/analysis/IntArray", "size", "()I"⟩ : MethodName) prog_5_method_3_code 1 (some .int) ({ frames := 0, cells := 0, slots := 0, locals := 0 } : Room) n0 #[(.ref a)] h (fun v h' => v = some (.int s) ∧ h' = h) wl := by
  refine Ctr.of (ls := #[.val (.ref a)]) (by first | (exact plainFor_of_name (by first | (simp [plainName, overriddenIn]; done) | decide +kernel)) | decide +kernel) hw (fun m => entry_eq m (L1 := [.val (.ref a)]) (k := 0) rfl rfl rfl) (fun G C => ?_)
  refine C.aloadN d5_0 rfl (pc' := 1) rfl ?_
  refine C.getfield (i := 17) rfl FS_a d5_1 (pc' := 4) rfl ?_
  exact C.ireturn d5_4 rfl (by decide) (by decide) ⟨rfl, rfl⟩
set_option maxRecDepth 65536 in
set_option maxHeartbeats 4000000 in
theorem c_last (l : Launch) (Z : State) (a0 : Array Value) (hw : ∀ d ∈ tables_1, d.before a0 Z = true) (wl : List Jvm.Cond) (n0 : Nat) (h : Heap) (a t : Addr) (vs : List Value) (s s' r : Int32) (i : Nat) (hz : n0 ≤ h.size) (g_a : n0 ≤ a) (g_t : n0 ≤ t) (ne_at : a ≠ t) (E_a : Exa Z h a "com/example/taintline/taintline/analysis/IntArray") (FN_a : Fld Z h a "com/example/taintline/taintline/analysis/IntArray" "numbers" "[I" (.ref t)) (FS_a : Fld Z h a "com/example/taintline/taintline/analysis/IntArray" "size" "I" (.int s)) (V_t : Lst Z h t .int vs) (hi : Idx s' i) (hs : s - 1 = s') (hr : vs[i]? = some (.int r)) :
    Ctr l Z (⟨"com/example/taintline/taintline/analysis/IntArray", "last", "()I"⟩ : MethodName) prog_5_method_4_code 1 (some .int) ({ frames := 0, cells := 0, slots := 0, locals := 0 } : Room) n0 #[(.ref a)] h (fun v h' => v = some (.int r) ∧ h' = h) wl := by
  refine Ctr.of (ls := #[.val (.ref a)]) (by first | (exact plainFor_of_name (by first | (simp [plainName, overriddenIn]; done) | decide +kernel)) | decide +kernel) hw (fun m => entry_eq m (L1 := [.val (.ref a)]) (k := 0) rfl rfl rfl) (fun G C => ?_)
  refine C.aloadN d6_0 rfl (pc' := 1) rfl ?_
  refine C.getfield (i := 10) rfl FN_a d6_1 (pc' := 4) rfl ?_
  refine C.aloadN d6_4 rfl (pc' := 5) rfl ?_
  refine C.getfield (i := 17) rfl FS_a d6_5 (pc' := 8) rfl ?_
  refine C.iconst d6_8 (v := 1) rfl (pc' := 9) rfl ?_
  refine C.isub d6_9 (pc' := 10) rfl ?_
  refine castI (show (s - (1 : Int32)) = s' from hs) ?_
  refine C.iaload V_t (i := i) hi (v := (.int r)) hr d6_10 (pc' := 11) rfl ?_
  exact C.ireturn d6_11 rfl (by decide) (by decide) ⟨rfl, rfl⟩
set_option maxRecDepth 65536 in
set_option maxHeartbeats 4000000 in
theorem c_setLast (l : Launch) (Z : State) (a0 : Array Value) (hw : ∀ d ∈ tables_1, d.before a0 Z = true) (wl : List Jvm.Cond) (n0 : Nat) (h : Heap) (a t : Addr) (vs vs' : List Value) (s s' x : Int32) (i : Nat) (hz : n0 ≤ h.size) (g_a : n0 ≤ a) (g_t : n0 ≤ t) (ne_at : a ≠ t) (E_a : Exa Z h a "com/example/taintline/taintline/analysis/IntArray") (FN_a : Fld Z h a "com/example/taintline/taintline/analysis/IntArray" "numbers" "[I" (.ref t)) (FS_a : Fld Z h a "com/example/taintline/taintline/analysis/IntArray" "size" "I" (.int s)) (V_t : Lst Z h t .int vs) (hi : Idx s' i) (hil : i < vs.length) (hs : s - 1 = s') (hvs : vs.set i (.int x) = vs') :
    Ctr l Z (⟨"com/example/taintline/taintline/analysis/IntArray", "setLast", "(I)V"⟩ : MethodName) prog_5_method_5_code 2 none ({ frames := 0, cells := 0, slots := 0, locals := 0 } : Room) n0 #[(.ref a), (.int x)] h (fun v h' => v = none ∧ Keep h h' [t] ∧ Lst Z h' t .int vs') wl := by
  refine Ctr.of (ls := #[.val (.ref a), .val (.int x)]) (by first | (exact plainFor_of_name (by first | (simp [plainName, overriddenIn]; done) | decide +kernel)) | decide +kernel) hw (fun m => entry_eq m (L1 := [.val (.ref a), .val (.int x)]) (k := 0) rfl rfl rfl) (fun G C => ?_)
  have K := Keep.refl h [t]
  refine C.aloadN d4_0 rfl (pc' := 1) rfl ?_
  refine C.getfield (i := 10) rfl FN_a d4_1 (pc' := 4) rfl ?_
  refine C.aloadN d4_4 rfl (pc' := 5) rfl ?_
  refine C.getfield (i := 17) rfl FS_a d4_5 (pc' := 8) rfl ?_
  refine C.iconst d4_8 (v := 1) rfl (pc' := 9) rfl ?_
  refine C.isub d4_9 (pc' := 10) rfl ?_
  refine castI (show (s - (1 : Int32)) = s' from hs) ?_
  refine C.iloadN d4_10 rfl (pc' := 11) rfl ?_
  refine C.iastore V_t (i := i) hi hil (vs' := vs') hvs g_t d4_11 (pc' := 12) rfl ?_
  intro h11 W12 V_t
  have E_a := E_a.wr W12
  have FN_a := FN_a.other W12 (Or.inl ne_at)
  have FS_a := FS_a.other W12 (Or.inl ne_at)
  have hz : n0 ≤ _ := Nat.le_trans hz (Nat.le_of_eq W12.size.symm)
  have K := K.wr W12 (Or.inl (by simp))
  exact C.vreturn d4_12 rfl (by decide) (by decide) ⟨rfl, K, V_t⟩
set_option maxRecDepth 65536 in
set_option maxHeartbeats 4000000 in
theorem c_min (l : Launch) (Z : State) (a0 : Array Value) (hw : ∀ d ∈ tables_1, d.before a0 Z = true) (wl : List Jvm.Cond) (n0 : Nat) (h : Heap) (a b : Int32) (hba : b < a) :
    Ctr l Z (⟨"java/lang/Math", "min", "(II)I"⟩ : MethodName) jdk_29_method_69_code 2 (some .int) ({ frames := 0, cells := 0, slots := 0, locals := 0 } : Room) n0 #[(.int a), (.int b)] h (fun v h' => v = some (.int b) ∧ h' = h) wl := by
  refine Ctr.of (ls := #[.val (.int a), .val (.int b)]) (by first | (exact plainFor_of_name (by first | (simp [plainName, overriddenIn]; done) | decide +kernel)) | decide +kernel) hw (fun m => entry_eq m (L1 := [.val (.int a), .val (.int b)]) (k := 0) rfl rfl rfl) (fun G C => ?_)
  refine C.iloadN d9_0 rfl (pc' := 1) rfl ?_
  refine C.iloadN d9_1 rfl (pc' := 2) rfl ?_
  refine C.icmp_gt_T d9_2 hba (by decide) (pc' := 9) rfl ?_
  refine C.iloadN d9_9 rfl (pc' := 10) rfl ?_
  exact C.ireturn d9_10 rfl (by decide) (by decide) ⟨rfl, rfl⟩
set_option maxRecDepth 65536 in
set_option maxHeartbeats 4000000 in
theorem c_copy (l : Launch) (Z : State) (a0 : Array Value) (hw : ∀ d ∈ tables_1, d.before a0 Z = true) (wl : List Jvm.Cond) (n0 : Nat) (h : Heap) (a : Addr) (vs us : List Value) (z : Int32) (N : Nat) (hz : n0 ≤ h.size) (V_a : Lst Z h a .int vs) (hlen : vs.length = 16) (hN : Idx z N) (hN16 : N < 16) (hfit : ∀ i, i < vs.length → fits .int (vs.getD i (.int (0 : Int32))) = true) (hus : (List.range N).map (fun x => vs.getD (0 + x) (.int (0 : Int32))) = us) :
    Ctr l Z (⟨"java/util/Arrays", "copyOf", "([II)[I"⟩ : MethodName) jdk_65_method_123_code 3 (some (.array .int)) ({ frames := 1, cells := 1, slots := 16, locals := 18 } : Room) n0 #[(.ref a), (.int z)] h (fun v h' => ∃ t, v = some (.ref t) ∧ n0 ≤ t ∧ Keep h h' [] ∧ Lst Z h' t .int us) wl := by
  refine Ctr.of (ls := #[.val (.ref a), .val (.int z), .unset]) (by first | (exact plainFor_of_name (by first | (simp [plainName, overriddenIn]; done) | decide +kernel)) | decide +kernel) hw (fun m => entry_eq m (L1 := [.val (.ref a), .val (.int z)]) (k := 1) rfl rfl rfl) (fun G C => ?_)
  have K := Keep.refl h []
  refine C.iloadN d8_0 rfl (pc' := 1) rfl ?_
  refine C.aloadN d8_1 rfl (pc' := 2) rfl ?_
  refine C.arraylength V_a (N := 16) (by rw [hlen]; rfl) d8_2 (pc' := 3) rfl ?_
  refine C.icmp_ne_T d8_3 (own_ne16 hN hN16) (by decide) (pc' := 14) rfl ?_
  refine C.iloadN d8_14 rfl (pc' := 15) rfl ?_
  refine C.newarray (w := 9) (ty := .int) rfl rfl (N := N) hN (d := (.int (0 : Int32))) rfl (vs := List.replicate N (.int (0 : Int32))) rfl (cap := 16) (by omega) (by decide) (by decide) (by decide) d8_15 (pc' := 17) rfl ?_
  intro h1 t q1 E1 V_t
  have ne_a_t : a ≠ t := Nat.ne_of_lt (Nat.lt_of_lt_of_le V_a.lt (Nat.le_of_eq q1.symm))
  have V_a := V_a.ext E1
  have g_t : n0 ≤ t := Nat.le_trans hz (Nat.le_of_eq q1.symm)
  have hz := Nat.le_trans hz E1.1
  have sz_t : h.size ≤ t := Nat.le_trans K.1 (Nat.le_of_eq q1.symm)
  have K := K.ext E1
  refine C.astoreN d8_17 (ls' := #[.val (.ref a), .val (.int z), .val (.ref t)]) rfl (pc' := 18) rfl ?_
  refine C.aloadN d8_18 rfl (pc' := 19) rfl ?_
  refine C.iconst d8_19 (v := 0) rfl (pc' := 20) rfl ?_
  refine C.aloadN d8_20 rfl (pc' := 21) rfl ?_
  refine C.iconst d8_21 (v := 0) rfl (pc' := 22) rfl ?_
  refine C.aloadN d8_22 rfl (pc' := 23) rfl ?_
  refine C.arraylength V_a (N := 16) (by rw [hlen]; rfl) d8_23 (pc' := 24) rfl ?_
  refine C.iloadN d8_24 rfl (pc' := 25) rfl ?_
  refine C.callSP (c_min l Z a0 hw [] n0 h1 16 z (own_ltN hN hN16)) (i1 := 43) (i2 := 44) (i3 := 45) (i4 := 46) rfl rfl rfl rfl (by decide) pd_0 rfl (argsL := [(.int 16), (.int z)]) rfl (rest := [(.int (0 : Int32)), (.ref t), (.int (0 : Int32)), (.ref a)]) rfl rfl (W := 4) rfl (by decide) (by decide) (by decide) (by decide) d8_25 (pc' := 28) rfl (k' := 1) rfl (n' := 16) rfl ?_
  refine C.arraycopy (i1 := 47) (i2 := 50) (i3 := 48) (i4 := 49) rfl rfl rfl rfl V_a V_t (za := 16) (zb := z) (by rw [hlen]; exact ⟨by decide, by decide⟩) (by rw [List.length_replicate]; exact hN) (dv := (.int (0 : Int32))) hfit (fun i hi => by rw [List.getD_eq_getElem?_getD, List.getElem?_replicate]; split <;> rfl) rfl (i := 0) ⟨by decide, by decide⟩ (j := 0) ⟨by decide, by decide⟩ (N := N) hN (by omega) (by rw [List.length_replicate]; omega) hus (vs' := us) (by rw [List.take_zero, List.nil_append, Nat.zero_add, List.drop_replicate, Nat.sub_self, List.replicate_zero, List.append_nil]) g_t rfl (by decide) (W := 0) rfl (by decide) d8_28 (pc' := 31) rfl ?_
  intro h2 K2 V_t
  have K := K.trans K2 (allS (Or.inr sz_t) all0)
  refine C.aloadN d8_31 rfl (pc' := 32) rfl ?_
  exact C.areturn d8_32 rfl rfl rfl (by decide) (by decide) ⟨t, rfl, g_t, K, V_t⟩
set_option maxRecDepth 65536 in
set_option maxHeartbeats 4000000 in
theorem c_to (l : Launch) (Z : State) (a0 : Array Value) (hw : ∀ d ∈ tables_1, d.before a0 Z = true) (wl : List Jvm.Cond) (n0 : Nat) (h : Heap) (a t : Addr) (vs us : List Value) (z : Int32) (N : Nat) (FN_a : Fld Z h a "com/example/taintline/taintline/analysis/IntArray" "numbers" "[I" (.ref t)) (FS_a : Fld Z h a "com/example/taintline/taintline/analysis/IntArray" "size" "I" (.int z)) (hz : n0 ≤ h.size) (V_t : Lst Z h t .int vs) (hlen : vs.length = 16) (hN : Idx z N) (hN16 : N < 16) (hfit : ∀ i, i < vs.length → fits .int (vs.getD i (.int (0 : Int32))) = true) (hus : (List.range N).map (fun x => vs.getD (0 + x) (.int (0 : Int32))) = us) :
    Ctr l Z (⟨"com/example/taintline/taintline/analysis/IntArray", "toArray", "()[I"⟩ : MethodName) prog_5_method_7_code 1 (some (.array .int)) ({ frames := 2, cells := 1, slots := 16, locals := 32 } : Room) n0 #[(.ref a)] h (fun v h' => ∃ t, v = some (.ref t) ∧ n0 ≤ t ∧ Keep h h' [] ∧ Lst Z h' t .int us) wl := by
  refine Ctr.of (ls := #[.val (.ref a)]) (by first | (exact plainFor_of_name (by first | (simp [plainName, overriddenIn]; done) | decide +kernel)) | decide +kernel) hw (fun m => entry_eq m (L1 := [.val (.ref a)]) (k := 0) rfl rfl rfl) (fun G C => ?_)
  refine C.aloadN d7_0 rfl (pc' := 1) rfl ?_
  refine C.getfield (i := 10) rfl FN_a d7_1 (pc' := 4) rfl ?_
  refine C.aloadN d7_4 rfl (pc' := 5) rfl ?_
  refine C.getfield (i := 17) rfl FS_a d7_5 (pc' := 8) rfl ?_
  refine C.callS (c_copy l Z a0 hw [] n0 h t vs us z N hz V_t hlen hN hN16 hfit hus) (i1 := 39) (i2 := 40) (i3 := 41) (i4 := 42) rfl rfl rfl rfl (by decide) pd_1 rfl (argsL := [(.ref t), (.int z)]) rfl (rest := []) rfl rfl (W := 0) rfl (by decide) (by decide) (by decide) (by decide) d7_8 (pc' := 11) rfl (k' := 1) rfl (n' := 16) rfl ?_
  rintro _ h1 ⟨t', rfl, g', K', V'⟩
  exact C.areturn d7_11 rfl rfl rfl (by decide) (by decide) ⟨t', rfl, g', K', V'⟩
set_option maxRecDepth 65536 in
set_option maxHeartbeats 4000000 in
theorem c_law (l : Launch) (Z : State) (a0 : Array Value) (hw : ∀ d ∈ tables_1, d.before a0 Z = true) (wl : List Jvm.Cond) (n0 : Nat) (h : Heap) (a b c v n : Int32) (hz : n0 ≤ h.size) :
    Ctr l Z x code maxLocals ret room_1 n0 #[(.int a), (.int b), (.int c), (.int v), (.int n)] h (fun v _ => v = some (.int 1)) wl := by
  refine Ctr.of (ls := #[.val (.int a), .val (.int b), .val (.int c), .val (.int v), .val (.int n), .unset, .unset, .unset]) (by first | (exact plainFor_of_name (by first | (simp [plainName, overriddenIn]; done) | decide +kernel)) | decide +kernel) hw (fun m => entry_eq m (L1 := [.val (.int a), .val (.int b), .val (.int c), .val (.int v), .val (.int n)]) (k := 3) rfl rfl rfl) (fun G C => ?_)
  obtain ⟨kk, hk, hk3⟩ := own_k n
  refine C.iload at_0 rfl (pc' := 2) rfl ?_
  refine C.iconst at_2 (v := 3) rfl (pc' := 3) rfl ?_
  refine C.iand at_3 (pc' := 4) rfl ?_
  refine C.iconst at_4 (v := 3) rfl (pc' := 5) rfl ?_
  refine C.irem at_5 (by decide) (pc' := 6) rfl ?_
  refine C.iconst at_6 (v := 1) rfl (pc' := 7) rfl ?_
  refine C.iadd at_7 (pc' := 8) rfl ?_
  refine castI (show (((n &&& (3 : Int32)) % (3 : Int32)) + (1 : Int32)) = kk from hk) ?_
  rcases hk3 with rfl | rfl | rfl
  · refine C.istore at_8 (ls' := #[.val (.int a), .val (.int b), .val (.int c), .val (.int v), .val (.int n), .val (.int (1 : Int32)), .unset, .unset]) rfl (pc' := 10) rfl ?_
    refine C.newO (i1 := 0) (i2 := 1) (i3 := 2) rfl rfl rfl (by decide) (by decide) at_10 (pc' := 13) rfl ?_
    intro h13 o14 q15 E16 E_o14 D17
    have g_o14 : n0 ≤ o14 := Nat.le_trans hz (Nat.le_of_eq q15.symm)
    have hz := Nat.le_trans hz E16.1
    have F_numbers_o14 : Fld Z h13 o14 "com/example/taintline/taintline/analysis/IntArray" "numbers" "[I" .null := D17 (ty := (.array .int)) (Or.inl (hw _ (List.mem_of_getElem? (i := 11) rfl))) (by decide)
    have F_size_o14 : Fld Z h13 o14 "com/example/taintline/taintline/analysis/IntArray" "size" "I" (.int (0 : Int32)) := D17 (ty := .int) (Or.inl (hw _ (List.mem_of_getElem? (i := 18) rfl))) (by decide)
    refine C.dup at_13 rfl (pc' := 14) rfl ?_
    refine C.callI (a := o14) (c_init l Z a0 hw [] n0 h13 o14 hz g_o14 E_o14 F_numbers_o14 F_size_o14) (i1 := 3) (i2 := 4) (i3 := 2) (i4 := 5) rfl rfl rfl rfl rfl (by decide) pd_2 rfl (argsL := []) rfl (rest := [(.ref o14)]) rfl rfl (W := 1) rfl (by decide) (by decide) (by decide) (by decide) at_14 (pc' := 17) rfl (k' := 2) rfl (n' := 18) rfl ?_
    rintro _ h18 ⟨rfl, K19, t20, g_t20, ne_o14_t20, FN21, FS22, V_t20⟩
    have E_o14 := E_o14.keep K19
    have hz := Nat.le_trans hz K19.1
    refine C.astore at_17 (ls' := #[.val (.int a), .val (.int b), .val (.int c), .val (.int v), .val (.int n), .val (.int (1 : Int32)), .val (.ref o14), .unset]) rfl (pc' := 19) rfl ?_
    refine C.aload at_19 rfl (pc' := 21) rfl ?_
    refine C.iloadN at_21 rfl (pc' := 22) rfl ?_
    refine C.callV (a := o14) (c_add l Z a0 hw [] n0 h18 o14 t20 [(.int (0 : Int32)), (.int (0 : Int32)), (.int (0 : Int32)), (.int (0 : Int32)), (.int (0 : Int32)), (.int (0 : Int32)), (.int (0 : Int32)), (.int (0 : Int32)), (.int (0 : Int32)), (.int (0 : Int32)), (.int (0 : Int32)), (.int (0 : Int32)), (.int (0 : Int32)), (.int (0 : Int32)), (.int (0 : Int32)), (.int (0 : Int32))] [(.int a), (.int (0 : Int32)), (.int (0 : Int32)), (.int (0 : Int32)), (.int (0 : Int32)), (.int (0 : Int32)), (.int (0 : Int32)), (.int (0 : Int32)), (.int (0 : Int32)), (.int (0 : Int32)), (.int (0 : Int32)), (.int (0 : Int32)), (.int (0 : Int32)), (.int (0 : Int32)), (.int (0 : Int32)), (.int (0 : Int32))] (0 : Int32) (1 : Int32) a 0 hz g_o14 g_t20 ne_o14_t20 E_o14 FN21 FS22 V_t20 rfl ⟨by decide, by decide⟩ (by decide) (by decide) rfl) E_o14 (i1 := 12) (i2 := 13) (i3 := 14) (i4 := 15) (i5 := 16) (i6 := 2) rfl rfl rfl rfl rfl rfl (by decide) pd_3 rfl (argsL := [(.int a)]) rfl (rest := []) rfl rfl (W := 0) rfl (by decide) (by decide) (by decide) (by decide) at_22 (pc' := 25) rfl (k' := 2) rfl (n' := 18) rfl ?_
    rintro _ h23 ⟨rfl, K24, FN25, FS26, V27⟩
    have E_o14 := E_o14.keep K24
    have hz := Nat.le_trans hz K24.1
    refine C.iload at_25 rfl (pc' := 27) rfl ?_
    refine C.iconst at_27 (v := 2) rfl (pc' := 28) rfl ?_
    refine C.icmp_lt_T at_28 (by decide) (by decide) (pc' := 37) rfl ?_
    refine C.iload at_37 rfl (pc' := 39) rfl ?_
    refine C.iconst at_39 (v := 3) rfl (pc' := 40) rfl ?_
    refine C.icmp_lt_T at_40 (by decide) (by decide) (pc' := 49) rfl ?_
    refine C.aload at_49 rfl (pc' := 51) rfl ?_
    refine C.iloadN at_51 rfl (pc' := 52) rfl ?_
    refine C.callV (a := o14) (c_setLast l Z a0 hw [] n0 h23 o14 t20 [(.int a), (.int (0 : Int32)), (.int (0 : Int32)), (.int (0 : Int32)), (.int (0 : Int32)), (.int (0 : Int32)), (.int (0 : Int32)), (.int (0 : Int32)), (.int (0 : Int32)), (.int (0 : Int32)), (.int (0 : Int32)), (.int (0 : Int32)), (.int (0 : Int32)), (.int (0 : Int32)), (.int (0 : Int32)), (.int (0 : Int32))] [(.int v), (.int (0 : Int32)), (.int (0 : Int32)), (.int (0 : Int32)), (.int (0 : Int32)), (.int (0 : Int32)), (.int (0 : Int32)), (.int (0 : Int32)), (.int (0 : Int32)), (.int (0 : Int32)), (.int (0 : Int32)), (.int (0 : Int32)), (.int (0 : Int32)), (.int (0 : Int32)), (.int (0 : Int32)), (.int (0 : Int32))] (1 : Int32) (0 : Int32) v 0 hz g_o14 g_t20 ne_o14_t20 E_o14 FN25 FS26 V27 ⟨by decide, by decide⟩ (by simp) (by decide) rfl) E_o14 (i1 := 19) (i2 := 20) (i3 := 21) (i4 := 22) (i5 := 23) (i6 := 2) rfl rfl rfl rfl rfl rfl (by decide) pd_3 rfl (argsL := [(.int v)]) rfl (rest := []) rfl rfl (W := 0) rfl (by decide) (by decide) (by decide) (by decide) at_52 (pc' := 55) rfl (k' := 2) rfl (n' := 18) rfl ?_
    rintro _ h28 ⟨rfl, K29, V30⟩
    have E_o14 := E_o14.keep K29
    have FN25 := FN25.keep K29 (ninS ne_o14_t20 nin0)
    have FS26 := FS26.keep K29 (ninS ne_o14_t20 nin0)
    have hz := Nat.le_trans hz K29.1
    refine C.aload at_55 rfl (pc' := 57) rfl ?_
    refine C.callVP (a := o14) (c_size l Z a0 hw [] n0 h28 o14 (1 : Int32) FS26) E_o14 (i1 := 24) (i2 := 25) (i3 := 26) (i4 := 27) (i5 := 28) (i6 := 2) rfl rfl rfl rfl rfl rfl (by decide) pd_4 rfl (argsL := []) rfl (rest := []) rfl rfl (W := 0) rfl (by decide) (by decide) (by decide) (by decide) at_57 (pc' := 60) rfl (k' := 2) rfl (n' := 18) rfl ?_
    refine C.iload at_60 rfl (pc' := 62) rfl ?_
    refine C.icmp_eq_T at_62 rfl (by decide) (pc' := 67) rfl ?_
    refine C.aload at_67 rfl (pc' := 69) rfl ?_
    refine C.callVP (a := o14) (c_last l Z a0 hw [] n0 h28 o14 t20 [(.int v), (.int (0 : Int32)), (.int (0 : Int32)), (.int (0 : Int32)), (.int (0 : Int32)), (.int (0 : Int32)), (.int (0 : Int32)), (.int (0 : Int32)), (.int (0 : Int32)), (.int (0 : Int32)), (.int (0 : Int32)), (.int (0 : Int32)), (.int (0 : Int32)), (.int (0 : Int32)), (.int (0 : Int32)), (.int (0 : Int32))] (1 : Int32) (0 : Int32) v 0 hz g_o14 g_t20 ne_o14_t20 E_o14 FN25 FS26 V30 ⟨by decide, by decide⟩ (by decide) rfl) E_o14 (i1 := 29) (i2 := 30) (i3 := 31) (i4 := 32) (i5 := 33) (i6 := 2) rfl rfl rfl rfl rfl rfl (by decide) pd_4 rfl (argsL := []) rfl (rest := []) rfl rfl (W := 0) rfl (by decide) (by decide) (by decide) (by decide) at_69 (pc' := 72) rfl (k' := 2) rfl (n' := 18) rfl ?_
    refine C.iloadN at_72 rfl (pc' := 73) rfl ?_
    refine C.icmp_eq_T at_73 rfl (by decide) (pc' := 78) rfl ?_
    refine C.aload at_78 rfl (pc' := 80) rfl ?_
    refine C.callV (a := o14) (c_to l Z a0 hw [] n0 h28 o14 t20 [(.int v), (.int (0 : Int32)), (.int (0 : Int32)), (.int (0 : Int32)), (.int (0 : Int32)), (.int (0 : Int32)), (.int (0 : Int32)), (.int (0 : Int32)), (.int (0 : Int32)), (.int (0 : Int32)), (.int (0 : Int32)), (.int (0 : Int32)), (.int (0 : Int32)), (.int (0 : Int32)), (.int (0 : Int32)), (.int (0 : Int32))] [(.int v)] (1 : Int32) 1 FN25 FS26 hz V30 rfl ⟨by decide, by decide⟩ (by decide) (own_fit _ (by simp [fits])) rfl) E_o14 (i1 := 34) (i2 := 35) (i3 := 36) (i4 := 37) (i5 := 38) (i6 := 2) rfl rfl rfl rfl rfl rfl (by decide) pd_5 rfl (argsL := []) rfl (rest := []) rfl rfl (W := 0) rfl (by decide) (by decide) (by decide) (by decide) at_80 (pc' := 83) rfl (k' := 3) rfl (n' := 34) rfl ?_
    rintro _ h31 ⟨t33, rfl, g_t33, K32, V34⟩
    have E_o14 := E_o14.keep K32
    have FN25 := FN25.keep K32 nin0
    have FS26 := FS26.keep K32 nin0
    have V30 := V30.keep K32 nin0
    have hz := Nat.le_trans hz K32.1
    refine C.astore at_83 (ls' := #[.val (.int a), .val (.int b), .val (.int c), .val (.int v), .val (.int n), .val (.int (1 : Int32)), .val (.ref o14), .val (.ref t33)]) rfl (pc' := 85) rfl ?_
    refine C.aload at_85 rfl (pc' := 87) rfl ?_
    refine C.arraylength V34 (N := 1) (by first | rfl | decide) at_87 (pc' := 88) rfl ?_
    refine C.iload at_88 rfl (pc' := 90) rfl ?_
    refine C.icmp_eq_T at_90 rfl (by decide) (pc' := 95) rfl ?_
    refine C.iload at_95 rfl (pc' := 97) rfl ?_
    refine C.iconst at_97 (v := 1) rfl (pc' := 98) rfl ?_
    refine C.icmp_ne_F at_98 rfl (pc' := 101) rfl ?_
    refine C.aload at_101 rfl (pc' := 103) rfl ?_
    refine C.iconst at_103 (v := 0) rfl (pc' := 104) rfl ?_
    refine C.iaload V34 (i := 0) ⟨by decide, by decide⟩ (v := (.int v)) rfl at_104 (pc' := 105) rfl ?_
    refine C.iloadN at_105 rfl (pc' := 106) rfl ?_
    refine C.icmp_ne_F at_106 rfl (pc' := 109) rfl ?_
    refine C.iconst at_109 (v := 1) rfl (pc' := 110) rfl ?_
    refine C.goto at_110 (by decide) (pc' := 114) rfl ?_
    exact C.nreturn (b := (1 : Int32)) at_114 rfl (by simp) (by decide) (by decide) rfl rfl
  · refine C.istore at_8 (ls' := #[.val (.int a), .val (.int b), .val (.int c), .val (.int v), .val (.int n), .val (.int (2 : Int32)), .unset, .unset]) rfl (pc' := 10) rfl ?_
    refine C.newO (i1 := 0) (i2 := 1) (i3 := 2) rfl rfl rfl (by decide) (by decide) at_10 (pc' := 13) rfl ?_
    intro h35 o36 q37 E38 E_o36 D39
    have g_o36 : n0 ≤ o36 := Nat.le_trans hz (Nat.le_of_eq q37.symm)
    have hz := Nat.le_trans hz E38.1
    have F_numbers_o36 : Fld Z h35 o36 "com/example/taintline/taintline/analysis/IntArray" "numbers" "[I" .null := D39 (ty := (.array .int)) (Or.inl (hw _ (List.mem_of_getElem? (i := 11) rfl))) (by decide)
    have F_size_o36 : Fld Z h35 o36 "com/example/taintline/taintline/analysis/IntArray" "size" "I" (.int (0 : Int32)) := D39 (ty := .int) (Or.inl (hw _ (List.mem_of_getElem? (i := 18) rfl))) (by decide)
    refine C.dup at_13 rfl (pc' := 14) rfl ?_
    refine C.callI (a := o36) (c_init l Z a0 hw [] n0 h35 o36 hz g_o36 E_o36 F_numbers_o36 F_size_o36) (i1 := 3) (i2 := 4) (i3 := 2) (i4 := 5) rfl rfl rfl rfl rfl (by decide) pd_2 rfl (argsL := []) rfl (rest := [(.ref o36)]) rfl rfl (W := 1) rfl (by decide) (by decide) (by decide) (by decide) at_14 (pc' := 17) rfl (k' := 2) rfl (n' := 18) rfl ?_
    rintro _ h40 ⟨rfl, K41, t42, g_t42, ne_o36_t42, FN43, FS44, V_t42⟩
    have E_o36 := E_o36.keep K41
    have hz := Nat.le_trans hz K41.1
    refine C.astore at_17 (ls' := #[.val (.int a), .val (.int b), .val (.int c), .val (.int v), .val (.int n), .val (.int (2 : Int32)), .val (.ref o36), .unset]) rfl (pc' := 19) rfl ?_
    refine C.aload at_19 rfl (pc' := 21) rfl ?_
    refine C.iloadN at_21 rfl (pc' := 22) rfl ?_
    refine C.callV (a := o36) (c_add l Z a0 hw [] n0 h40 o36 t42 [(.int (0 : Int32)), (.int (0 : Int32)), (.int (0 : Int32)), (.int (0 : Int32)), (.int (0 : Int32)), (.int (0 : Int32)), (.int (0 : Int32)), (.int (0 : Int32)), (.int (0 : Int32)), (.int (0 : Int32)), (.int (0 : Int32)), (.int (0 : Int32)), (.int (0 : Int32)), (.int (0 : Int32)), (.int (0 : Int32)), (.int (0 : Int32))] [(.int a), (.int (0 : Int32)), (.int (0 : Int32)), (.int (0 : Int32)), (.int (0 : Int32)), (.int (0 : Int32)), (.int (0 : Int32)), (.int (0 : Int32)), (.int (0 : Int32)), (.int (0 : Int32)), (.int (0 : Int32)), (.int (0 : Int32)), (.int (0 : Int32)), (.int (0 : Int32)), (.int (0 : Int32)), (.int (0 : Int32))] (0 : Int32) (1 : Int32) a 0 hz g_o36 g_t42 ne_o36_t42 E_o36 FN43 FS44 V_t42 rfl ⟨by decide, by decide⟩ (by decide) (by decide) rfl) E_o36 (i1 := 12) (i2 := 13) (i3 := 14) (i4 := 15) (i5 := 16) (i6 := 2) rfl rfl rfl rfl rfl rfl (by decide) pd_3 rfl (argsL := [(.int a)]) rfl (rest := []) rfl rfl (W := 0) rfl (by decide) (by decide) (by decide) (by decide) at_22 (pc' := 25) rfl (k' := 2) rfl (n' := 18) rfl ?_
    rintro _ h45 ⟨rfl, K46, FN47, FS48, V49⟩
    have E_o36 := E_o36.keep K46
    have hz := Nat.le_trans hz K46.1
    refine C.iload at_25 rfl (pc' := 27) rfl ?_
    refine C.iconst at_27 (v := 2) rfl (pc' := 28) rfl ?_
    refine C.icmp_lt_F at_28 (by decide) (pc' := 31) rfl ?_
    refine C.aload at_31 rfl (pc' := 33) rfl ?_
    refine C.iloadN at_33 rfl (pc' := 34) rfl ?_
    refine C.callV (a := o36) (c_add l Z a0 hw [] n0 h45 o36 t42 [(.int a), (.int (0 : Int32)), (.int (0 : Int32)), (.int (0 : Int32)), (.int (0 : Int32)), (.int (0 : Int32)), (.int (0 : Int32)), (.int (0 : Int32)), (.int (0 : Int32)), (.int (0 : Int32)), (.int (0 : Int32)), (.int (0 : Int32)), (.int (0 : Int32)), (.int (0 : Int32)), (.int (0 : Int32)), (.int (0 : Int32))] [(.int a), (.int b), (.int (0 : Int32)), (.int (0 : Int32)), (.int (0 : Int32)), (.int (0 : Int32)), (.int (0 : Int32)), (.int (0 : Int32)), (.int (0 : Int32)), (.int (0 : Int32)), (.int (0 : Int32)), (.int (0 : Int32)), (.int (0 : Int32)), (.int (0 : Int32)), (.int (0 : Int32)), (.int (0 : Int32))] (1 : Int32) (2 : Int32) b 1 hz g_o36 g_t42 ne_o36_t42 E_o36 FN47 FS48 V49 rfl ⟨by decide, by decide⟩ (by decide) (by decide) rfl) E_o36 (i1 := 12) (i2 := 13) (i3 := 14) (i4 := 15) (i5 := 16) (i6 := 2) rfl rfl rfl rfl rfl rfl (by decide) pd_3 rfl (argsL := [(.int b)]) rfl (rest := []) rfl rfl (W := 0) rfl (by decide) (by decide) (by decide) (by decide) at_34 (pc' := 37) rfl (k' := 2) rfl (n' := 18) rfl ?_
    rintro _ h50 ⟨rfl, K51, FN52, FS53, V54⟩
    have E_o36 := E_o36.keep K51
    have hz := Nat.le_trans hz K51.1
    refine C.iload at_37 rfl (pc' := 39) rfl ?_
    refine C.iconst at_39 (v := 3) rfl (pc' := 40) rfl ?_
    refine C.icmp_lt_T at_40 (by decide) (by decide) (pc' := 49) rfl ?_
    refine C.aload at_49 rfl (pc' := 51) rfl ?_
    refine C.iloadN at_51 rfl (pc' := 52) rfl ?_
    refine C.callV (a := o36) (c_setLast l Z a0 hw [] n0 h50 o36 t42 [(.int a), (.int b), (.int (0 : Int32)), (.int (0 : Int32)), (.int (0 : Int32)), (.int (0 : Int32)), (.int (0 : Int32)), (.int (0 : Int32)), (.int (0 : Int32)), (.int (0 : Int32)), (.int (0 : Int32)), (.int (0 : Int32)), (.int (0 : Int32)), (.int (0 : Int32)), (.int (0 : Int32)), (.int (0 : Int32))] [(.int a), (.int v), (.int (0 : Int32)), (.int (0 : Int32)), (.int (0 : Int32)), (.int (0 : Int32)), (.int (0 : Int32)), (.int (0 : Int32)), (.int (0 : Int32)), (.int (0 : Int32)), (.int (0 : Int32)), (.int (0 : Int32)), (.int (0 : Int32)), (.int (0 : Int32)), (.int (0 : Int32)), (.int (0 : Int32))] (2 : Int32) (1 : Int32) v 1 hz g_o36 g_t42 ne_o36_t42 E_o36 FN52 FS53 V54 ⟨by decide, by decide⟩ (by simp) (by decide) rfl) E_o36 (i1 := 19) (i2 := 20) (i3 := 21) (i4 := 22) (i5 := 23) (i6 := 2) rfl rfl rfl rfl rfl rfl (by decide) pd_3 rfl (argsL := [(.int v)]) rfl (rest := []) rfl rfl (W := 0) rfl (by decide) (by decide) (by decide) (by decide) at_52 (pc' := 55) rfl (k' := 2) rfl (n' := 18) rfl ?_
    rintro _ h55 ⟨rfl, K56, V57⟩
    have E_o36 := E_o36.keep K56
    have FN52 := FN52.keep K56 (ninS ne_o36_t42 nin0)
    have FS53 := FS53.keep K56 (ninS ne_o36_t42 nin0)
    have hz := Nat.le_trans hz K56.1
    refine C.aload at_55 rfl (pc' := 57) rfl ?_
    refine C.callVP (a := o36) (c_size l Z a0 hw [] n0 h55 o36 (2 : Int32) FS53) E_o36 (i1 := 24) (i2 := 25) (i3 := 26) (i4 := 27) (i5 := 28) (i6 := 2) rfl rfl rfl rfl rfl rfl (by decide) pd_4 rfl (argsL := []) rfl (rest := []) rfl rfl (W := 0) rfl (by decide) (by decide) (by decide) (by decide) at_57 (pc' := 60) rfl (k' := 2) rfl (n' := 18) rfl ?_
    refine C.iload at_60 rfl (pc' := 62) rfl ?_
    refine C.icmp_eq_T at_62 rfl (by decide) (pc' := 67) rfl ?_
    refine C.aload at_67 rfl (pc' := 69) rfl ?_
    refine C.callVP (a := o36) (c_last l Z a0 hw [] n0 h55 o36 t42 [(.int a), (.int v), (.int (0 : Int32)), (.int (0 : Int32)), (.int (0 : Int32)), (.int (0 : Int32)), (.int (0 : Int32)), (.int (0 : Int32)), (.int (0 : Int32)), (.int (0 : Int32)), (.int (0 : Int32)), (.int (0 : Int32)), (.int (0 : Int32)), (.int (0 : Int32)), (.int (0 : Int32)), (.int (0 : Int32))] (2 : Int32) (1 : Int32) v 1 hz g_o36 g_t42 ne_o36_t42 E_o36 FN52 FS53 V57 ⟨by decide, by decide⟩ (by decide) rfl) E_o36 (i1 := 29) (i2 := 30) (i3 := 31) (i4 := 32) (i5 := 33) (i6 := 2) rfl rfl rfl rfl rfl rfl (by decide) pd_4 rfl (argsL := []) rfl (rest := []) rfl rfl (W := 0) rfl (by decide) (by decide) (by decide) (by decide) at_69 (pc' := 72) rfl (k' := 2) rfl (n' := 18) rfl ?_
    refine C.iloadN at_72 rfl (pc' := 73) rfl ?_
    refine C.icmp_eq_T at_73 rfl (by decide) (pc' := 78) rfl ?_
    refine C.aload at_78 rfl (pc' := 80) rfl ?_
    refine C.callV (a := o36) (c_to l Z a0 hw [] n0 h55 o36 t42 [(.int a), (.int v), (.int (0 : Int32)), (.int (0 : Int32)), (.int (0 : Int32)), (.int (0 : Int32)), (.int (0 : Int32)), (.int (0 : Int32)), (.int (0 : Int32)), (.int (0 : Int32)), (.int (0 : Int32)), (.int (0 : Int32)), (.int (0 : Int32)), (.int (0 : Int32)), (.int (0 : Int32)), (.int (0 : Int32))] [(.int a), (.int v)] (2 : Int32) 2 FN52 FS53 hz V57 rfl ⟨by decide, by decide⟩ (by decide) (own_fit _ (by simp [fits])) rfl) E_o36 (i1 := 34) (i2 := 35) (i3 := 36) (i4 := 37) (i5 := 38) (i6 := 2) rfl rfl rfl rfl rfl rfl (by decide) pd_5 rfl (argsL := []) rfl (rest := []) rfl rfl (W := 0) rfl (by decide) (by decide) (by decide) (by decide) at_80 (pc' := 83) rfl (k' := 3) rfl (n' := 34) rfl ?_
    rintro _ h58 ⟨t60, rfl, g_t60, K59, V61⟩
    have E_o36 := E_o36.keep K59
    have FN52 := FN52.keep K59 nin0
    have FS53 := FS53.keep K59 nin0
    have V57 := V57.keep K59 nin0
    have hz := Nat.le_trans hz K59.1
    refine C.astore at_83 (ls' := #[.val (.int a), .val (.int b), .val (.int c), .val (.int v), .val (.int n), .val (.int (2 : Int32)), .val (.ref o36), .val (.ref t60)]) rfl (pc' := 85) rfl ?_
    refine C.aload at_85 rfl (pc' := 87) rfl ?_
    refine C.arraylength V61 (N := 2) (by first | rfl | decide) at_87 (pc' := 88) rfl ?_
    refine C.iload at_88 rfl (pc' := 90) rfl ?_
    refine C.icmp_eq_T at_90 rfl (by decide) (pc' := 95) rfl ?_
    refine C.iload at_95 rfl (pc' := 97) rfl ?_
    refine C.iconst at_97 (v := 1) rfl (pc' := 98) rfl ?_
    refine C.icmp_ne_T at_98 (by decide) (by decide) (pc' := 115) rfl ?_
    refine C.iload at_115 rfl (pc' := 117) rfl ?_
    refine C.iconst at_117 (v := 2) rfl (pc' := 118) rfl ?_
    refine C.icmp_ne_F at_118 rfl (pc' := 121) rfl ?_
    refine C.aload at_121 rfl (pc' := 123) rfl ?_
    refine C.iconst at_123 (v := 0) rfl (pc' := 124) rfl ?_
    refine C.iaload V61 (i := 0) ⟨by decide, by decide⟩ (v := (.int a)) rfl at_124 (pc' := 125) rfl ?_
    refine C.iloadN at_125 rfl (pc' := 126) rfl ?_
    refine C.icmp_ne_F at_126 rfl (pc' := 129) rfl ?_
    refine C.aload at_129 rfl (pc' := 131) rfl ?_
    refine C.iconst at_131 (v := 1) rfl (pc' := 132) rfl ?_
    refine C.iaload V61 (i := 1) ⟨by decide, by decide⟩ (v := (.int v)) rfl at_132 (pc' := 133) rfl ?_
    refine C.iloadN at_133 rfl (pc' := 134) rfl ?_
    refine C.icmp_ne_F at_134 rfl (pc' := 137) rfl ?_
    refine C.iconst at_137 (v := 1) rfl (pc' := 138) rfl ?_
    refine C.goto at_138 (by decide) (pc' := 142) rfl ?_
    exact C.nreturn (b := (1 : Int32)) at_142 rfl (by simp) (by decide) (by decide) rfl rfl
  · refine C.istore at_8 (ls' := #[.val (.int a), .val (.int b), .val (.int c), .val (.int v), .val (.int n), .val (.int (3 : Int32)), .unset, .unset]) rfl (pc' := 10) rfl ?_
    refine C.newO (i1 := 0) (i2 := 1) (i3 := 2) rfl rfl rfl (by decide) (by decide) at_10 (pc' := 13) rfl ?_
    intro h62 o63 q64 E65 E_o63 D66
    have g_o63 : n0 ≤ o63 := Nat.le_trans hz (Nat.le_of_eq q64.symm)
    have hz := Nat.le_trans hz E65.1
    have F_numbers_o63 : Fld Z h62 o63 "com/example/taintline/taintline/analysis/IntArray" "numbers" "[I" .null := D66 (ty := (.array .int)) (Or.inl (hw _ (List.mem_of_getElem? (i := 11) rfl))) (by decide)
    have F_size_o63 : Fld Z h62 o63 "com/example/taintline/taintline/analysis/IntArray" "size" "I" (.int (0 : Int32)) := D66 (ty := .int) (Or.inl (hw _ (List.mem_of_getElem? (i := 18) rfl))) (by decide)
    refine C.dup at_13 rfl (pc' := 14) rfl ?_
    refine C.callI (a := o63) (c_init l Z a0 hw [] n0 h62 o63 hz g_o63 E_o63 F_numbers_o63 F_size_o63) (i1 := 3) (i2 := 4) (i3 := 2) (i4 := 5) rfl rfl rfl rfl rfl (by decide) pd_2 rfl (argsL := []) rfl (rest := [(.ref o63)]) rfl rfl (W := 1) rfl (by decide) (by decide) (by decide) (by decide) at_14 (pc' := 17) rfl (k' := 2) rfl (n' := 18) rfl ?_
    rintro _ h67 ⟨rfl, K68, t69, g_t69, ne_o63_t69, FN70, FS71, V_t69⟩
    have E_o63 := E_o63.keep K68
    have hz := Nat.le_trans hz K68.1
    refine C.astore at_17 (ls' := #[.val (.int a), .val (.int b), .val (.int c), .val (.int v), .val (.int n), .val (.int (3 : Int32)), .val (.ref o63), .unset]) rfl (pc' := 19) rfl ?_
    refine C.aload at_19 rfl (pc' := 21) rfl ?_
    refine C.iloadN at_21 rfl (pc' := 22) rfl ?_
    refine C.callV (a := o63) (c_add l Z a0 hw [] n0 h67 o63 t69 [(.int (0 : Int32)), (.int (0 : Int32)), (.int (0 : Int32)), (.int (0 : Int32)), (.int (0 : Int32)), (.int (0 : Int32)), (.int (0 : Int32)), (.int (0 : Int32)), (.int (0 : Int32)), (.int (0 : Int32)), (.int (0 : Int32)), (.int (0 : Int32)), (.int (0 : Int32)), (.int (0 : Int32)), (.int (0 : Int32)), (.int (0 : Int32))] [(.int a), (.int (0 : Int32)), (.int (0 : Int32)), (.int (0 : Int32)), (.int (0 : Int32)), (.int (0 : Int32)), (.int (0 : Int32)), (.int (0 : Int32)), (.int (0 : Int32)), (.int (0 : Int32)), (.int (0 : Int32)), (.int (0 : Int32)), (.int (0 : Int32)), (.int (0 : Int32)), (.int (0 : Int32)), (.int (0 : Int32))] (0 : Int32) (1 : Int32) a 0 hz g_o63 g_t69 ne_o63_t69 E_o63 FN70 FS71 V_t69 rfl ⟨by decide, by decide⟩ (by decide) (by decide) rfl) E_o63 (i1 := 12) (i2 := 13) (i3 := 14) (i4 := 15) (i5 := 16) (i6 := 2) rfl rfl rfl rfl rfl rfl (by decide) pd_3 rfl (argsL := [(.int a)]) rfl (rest := []) rfl rfl (W := 0) rfl (by decide) (by decide) (by decide) (by decide) at_22 (pc' := 25) rfl (k' := 2) rfl (n' := 18) rfl ?_
    rintro _ h72 ⟨rfl, K73, FN74, FS75, V76⟩
    have E_o63 := E_o63.keep K73
    have hz := Nat.le_trans hz K73.1
    refine C.iload at_25 rfl (pc' := 27) rfl ?_
    refine C.iconst at_27 (v := 2) rfl (pc' := 28) rfl ?_
    refine C.icmp_lt_F at_28 (by decide) (pc' := 31) rfl ?_
    refine C.aload at_31 rfl (pc' := 33) rfl ?_
    refine C.iloadN at_33 rfl (pc' := 34) rfl ?_
    refine C.callV (a := o63) (c_add l Z a0 hw [] n0 h72 o63 t69 [(.int a), (.int (0 : Int32)), (.int (0 : Int32)), (.int (0 : Int32)), (.int (0 : Int32)), (.int (0 : Int32)), (.int (0 : Int32)), (.int (0 : Int32)), (.int (0 : Int32)), (.int (0 : Int32)), (.int (0 : Int32)), (.int (0 : Int32)), (.int (0 : Int32)), (.int (0 : Int32)), (.int (0 : Int32)), (.int (0 : Int32))] [(.int a), (.int b), (.int (0 : Int32)), (.int (0 : Int32)), (.int (0 : Int32)), (.int (0 : Int32)), (.int (0 : Int32)), (.int (0 : Int32)), (.int (0 : Int32)), (.int (0 : Int32)), (.int (0 : Int32)), (.int (0 : Int32)), (.int (0 : Int32)), (.int (0 : Int32)), (.int (0 : Int32)), (.int (0 : Int32))] (1 : Int32) (2 : Int32) b 1 hz g_o63 g_t69 ne_o63_t69 E_o63 FN74 FS75 V76 rfl ⟨by decide, by decide⟩ (by decide) (by decide) rfl) E_o63 (i1 := 12) (i2 := 13) (i3 := 14) (i4 := 15) (i5 := 16) (i6 := 2) rfl rfl rfl rfl rfl rfl (by decide) pd_3 rfl (argsL := [(.int b)]) rfl (rest := []) rfl rfl (W := 0) rfl (by decide) (by decide) (by decide) (by decide) at_34 (pc' := 37) rfl (k' := 2) rfl (n' := 18) rfl ?_
    rintro _ h77 ⟨rfl, K78, FN79, FS80, V81⟩
    have E_o63 := E_o63.keep K78
    have hz := Nat.le_trans hz K78.1
    refine C.iload at_37 rfl (pc' := 39) rfl ?_
    refine C.iconst at_39 (v := 3) rfl (pc' := 40) rfl ?_
    refine C.icmp_lt_F at_40 (by decide) (pc' := 43) rfl ?_
    refine C.aload at_43 rfl (pc' := 45) rfl ?_
    refine C.iloadN at_45 rfl (pc' := 46) rfl ?_
    refine C.callV (a := o63) (c_add l Z a0 hw [] n0 h77 o63 t69 [(.int a), (.int b), (.int (0 : Int32)), (.int (0 : Int32)), (.int (0 : Int32)), (.int (0 : Int32)), (.int (0 : Int32)), (.int (0 : Int32)), (.int (0 : Int32)), (.int (0 : Int32)), (.int (0 : Int32)), (.int (0 : Int32)), (.int (0 : Int32)), (.int (0 : Int32)), (.int (0 : Int32)), (.int (0 : Int32))] [(.int a), (.int b), (.int c), (.int (0 : Int32)), (.int (0 : Int32)), (.int (0 : Int32)), (.int (0 : Int32)), (.int (0 : Int32)), (.int (0 : Int32)), (.int (0 : Int32)), (.int (0 : Int32)), (.int (0 : Int32)), (.int (0 : Int32)), (.int (0 : Int32)), (.int (0 : Int32)), (.int (0 : Int32))] (2 : Int32) (3 : Int32) c 2 hz g_o63 g_t69 ne_o63_t69 E_o63 FN79 FS80 V81 rfl ⟨by decide, by decide⟩ (by decide) (by decide) rfl) E_o63 (i1 := 12) (i2 := 13) (i3 := 14) (i4 := 15) (i5 := 16) (i6 := 2) rfl rfl rfl rfl rfl rfl (by decide) pd_3 rfl (argsL := [(.int c)]) rfl (rest := []) rfl rfl (W := 0) rfl (by decide) (by decide) (by decide) (by decide) at_46 (pc' := 49) rfl (k' := 2) rfl (n' := 18) rfl ?_
    rintro _ h82 ⟨rfl, K83, FN84, FS85, V86⟩
    have E_o63 := E_o63.keep K83
    have hz := Nat.le_trans hz K83.1
    refine C.aload at_49 rfl (pc' := 51) rfl ?_
    refine C.iloadN at_51 rfl (pc' := 52) rfl ?_
    refine C.callV (a := o63) (c_setLast l Z a0 hw [] n0 h82 o63 t69 [(.int a), (.int b), (.int c), (.int (0 : Int32)), (.int (0 : Int32)), (.int (0 : Int32)), (.int (0 : Int32)), (.int (0 : Int32)), (.int (0 : Int32)), (.int (0 : Int32)), (.int (0 : Int32)), (.int (0 : Int32)), (.int (0 : Int32)), (.int (0 : Int32)), (.int (0 : Int32)), (.int (0 : Int32))] [(.int a), (.int b), (.int v), (.int (0 : Int32)), (.int (0 : Int32)), (.int (0 : Int32)), (.int (0 : Int32)), (.int (0 : Int32)), (.int (0 : Int32)), (.int (0 : Int32)), (.int (0 : Int32)), (.int (0 : Int32)), (.int (0 : Int32)), (.int (0 : Int32)), (.int (0 : Int32)), (.int (0 : Int32))] (3 : Int32) (2 : Int32) v 2 hz g_o63 g_t69 ne_o63_t69 E_o63 FN84 FS85 V86 ⟨by decide, by decide⟩ (by simp) (by decide) rfl) E_o63 (i1 := 19) (i2 := 20) (i3 := 21) (i4 := 22) (i5 := 23) (i6 := 2) rfl rfl rfl rfl rfl rfl (by decide) pd_3 rfl (argsL := [(.int v)]) rfl (rest := []) rfl rfl (W := 0) rfl (by decide) (by decide) (by decide) (by decide) at_52 (pc' := 55) rfl (k' := 2) rfl (n' := 18) rfl ?_
    rintro _ h87 ⟨rfl, K88, V89⟩
    have E_o63 := E_o63.keep K88
    have FN84 := FN84.keep K88 (ninS ne_o63_t69 nin0)
    have FS85 := FS85.keep K88 (ninS ne_o63_t69 nin0)
    have hz := Nat.le_trans hz K88.1
    refine C.aload at_55 rfl (pc' := 57) rfl ?_
    refine C.callVP (a := o63) (c_size l Z a0 hw [] n0 h87 o63 (3 : Int32) FS85) E_o63 (i1 := 24) (i2 := 25) (i3 := 26) (i4 := 27) (i5 := 28) (i6 := 2) rfl rfl rfl rfl rfl rfl (by decide) pd_4 rfl (argsL := []) rfl (rest := []) rfl rfl (W := 0) rfl (by decide) (by decide) (by decide) (by decide) at_57 (pc' := 60) rfl (k' := 2) rfl (n' := 18) rfl ?_
    refine C.iload at_60 rfl (pc' := 62) rfl ?_
    refine C.icmp_eq_T at_62 rfl (by decide) (pc' := 67) rfl ?_
    refine C.aload at_67 rfl (pc' := 69) rfl ?_
    refine C.callVP (a := o63) (c_last l Z a0 hw [] n0 h87 o63 t69 [(.int a), (.int b), (.int v), (.int (0 : Int32)), (.int (0 : Int32)), (.int (0 : Int32)), (.int (0 : Int32)), (.int (0 : Int32)), (.int (0 : Int32)), (.int (0 : Int32)), (.int (0 : Int32)), (.int (0 : Int32)), (.int (0 : Int32)), (.int (0 : Int32)), (.int (0 : Int32)), (.int (0 : Int32))] (3 : Int32) (2 : Int32) v 2 hz g_o63 g_t69 ne_o63_t69 E_o63 FN84 FS85 V89 ⟨by decide, by decide⟩ (by decide) rfl) E_o63 (i1 := 29) (i2 := 30) (i3 := 31) (i4 := 32) (i5 := 33) (i6 := 2) rfl rfl rfl rfl rfl rfl (by decide) pd_4 rfl (argsL := []) rfl (rest := []) rfl rfl (W := 0) rfl (by decide) (by decide) (by decide) (by decide) at_69 (pc' := 72) rfl (k' := 2) rfl (n' := 18) rfl ?_
    refine C.iloadN at_72 rfl (pc' := 73) rfl ?_
    refine C.icmp_eq_T at_73 rfl (by decide) (pc' := 78) rfl ?_
    refine C.aload at_78 rfl (pc' := 80) rfl ?_
    refine C.callV (a := o63) (c_to l Z a0 hw [] n0 h87 o63 t69 [(.int a), (.int b), (.int v), (.int (0 : Int32)), (.int (0 : Int32)), (.int (0 : Int32)), (.int (0 : Int32)), (.int (0 : Int32)), (.int (0 : Int32)), (.int (0 : Int32)), (.int (0 : Int32)), (.int (0 : Int32)), (.int (0 : Int32)), (.int (0 : Int32)), (.int (0 : Int32)), (.int (0 : Int32))] [(.int a), (.int b), (.int v)] (3 : Int32) 3 FN84 FS85 hz V89 rfl ⟨by decide, by decide⟩ (by decide) (own_fit _ (by simp [fits])) rfl) E_o63 (i1 := 34) (i2 := 35) (i3 := 36) (i4 := 37) (i5 := 38) (i6 := 2) rfl rfl rfl rfl rfl rfl (by decide) pd_5 rfl (argsL := []) rfl (rest := []) rfl rfl (W := 0) rfl (by decide) (by decide) (by decide) (by decide) at_80 (pc' := 83) rfl (k' := 3) rfl (n' := 34) rfl ?_
    rintro _ h90 ⟨t92, rfl, g_t92, K91, V93⟩
    have E_o63 := E_o63.keep K91
    have FN84 := FN84.keep K91 nin0
    have FS85 := FS85.keep K91 nin0
    have V89 := V89.keep K91 nin0
    have hz := Nat.le_trans hz K91.1
    refine C.astore at_83 (ls' := #[.val (.int a), .val (.int b), .val (.int c), .val (.int v), .val (.int n), .val (.int (3 : Int32)), .val (.ref o63), .val (.ref t92)]) rfl (pc' := 85) rfl ?_
    refine C.aload at_85 rfl (pc' := 87) rfl ?_
    refine C.arraylength V93 (N := 3) (by first | rfl | decide) at_87 (pc' := 88) rfl ?_
    refine C.iload at_88 rfl (pc' := 90) rfl ?_
    refine C.icmp_eq_T at_90 rfl (by decide) (pc' := 95) rfl ?_
    refine C.iload at_95 rfl (pc' := 97) rfl ?_
    refine C.iconst at_97 (v := 1) rfl (pc' := 98) rfl ?_
    refine C.icmp_ne_T at_98 (by decide) (by decide) (pc' := 115) rfl ?_
    refine C.iload at_115 rfl (pc' := 117) rfl ?_
    refine C.iconst at_117 (v := 2) rfl (pc' := 118) rfl ?_
    refine C.icmp_ne_T at_118 (by decide) (by decide) (pc' := 143) rfl ?_
    refine C.aload at_143 rfl (pc' := 145) rfl ?_
    refine C.iconst at_145 (v := 0) rfl (pc' := 146) rfl ?_
    refine C.iaload V93 (i := 0) ⟨by decide, by decide⟩ (v := (.int a)) rfl at_146 (pc' := 147) rfl ?_
    refine C.iloadN at_147 rfl (pc' := 148) rfl ?_
    refine C.icmp_ne_F at_148 rfl (pc' := 151) rfl ?_
    refine C.aload at_151 rfl (pc' := 153) rfl ?_
    refine C.iconst at_153 (v := 1) rfl (pc' := 154) rfl ?_
    refine C.iaload V93 (i := 1) ⟨by decide, by decide⟩ (v := (.int b)) rfl at_154 (pc' := 155) rfl ?_
    refine C.iloadN at_155 rfl (pc' := 156) rfl ?_
    refine C.icmp_ne_F at_156 rfl (pc' := 159) rfl ?_
    refine C.aload at_159 rfl (pc' := 161) rfl ?_
    refine C.iconst at_161 (v := 2) rfl (pc' := 162) rfl ?_
    refine C.iaload V93 (i := 2) ⟨by decide, by decide⟩ (v := (.int v)) rfl at_162 (pc' := 163) rfl ?_
    refine C.iloadN at_163 rfl (pc' := 164) rfl ?_
    refine C.icmp_ne_F at_164 rfl (pc' := 167) rfl ?_
    refine C.iconst at_167 (v := 1) rfl (pc' := 168) rfl ?_
    refine C.goto at_168 (by decide) (pc' := 172) rfl ?_
    exact C.nreturn (b := (1 : Int32)) at_172 rfl (by simp) (by decide) (by decide) rfl rfl
set_option maxRecDepth 65536 in
set_option maxHeartbeats 4000000 in
theorem comes_1 {Post : Tables → Env → Array Value → State → Outcome → State → Prop} (hpost : ∀ tb e args s v u, (limb_1_1.after args s (.returned v) u = true ∧ limb_1_2.after args s (.returned v) u = true ∧ True) → FrameEnd s (.returned v) u (Jvm.fieldLocs frame_1_writes args s ++ Jvm.arrayLocs frame_1_arrays args s ++ Jvm.staticLocs frame_1_statics s) 16 128 → Post tb e args s (.returned v) u) :
    ArmFor flags0 classFile x code maxLocals ret World_1 tables_1 room_1 Calls_1 rest_1 Pre_1 Post := by
  intro l hfl _ _ p e ha hc hk s m args below hf hA hF happ hP
  obtain ⟨hcalls, hrest, hpre⟩ := hP
  obtain ⟨-, -, -, hnamed, -, -, -, hat⟩ := (Spec.applies_iff hf).mp happ
  obtain ⟨hg, hn⟩ := and_e (Cond.before_iff.mp (show (Jvm.Cond.and given_1 narrow_1).before args s = true from hpre))
  obtain ⟨hcount, hb0⟩ := and_e hg
  obtain ⟨ha0, hb1⟩ := and_e hb0
  obtain ⟨ha1, hb2⟩ := and_e hb1
  obtain ⟨ha2, hb3⟩ := and_e hb2
  obtain ⟨ha3, hb4⟩ := and_e hb3
  obtain ⟨w0, w1, w2, w3, w4, rfl⟩ : ∃ w0 w1 w2 w3 w4 : Value, args = #[w0, w1, w2, w3, w4] := by
    have hs : args.size = 5 := by simpa [Cond.value, given_1] using hcount
    obtain ⟨L⟩ := args
    match L, hs with
    | [w0, w1, w2, w3, w4], _ => exact ⟨w0, w1, w2, w3, w4, rfl⟩
  have hw := fun d (hd : d ∈ tables_1) => atoms_spec (ws := Jvm.Cond.code x code maxLocals ret :: tables_1) hat d (List.mem_cons_of_mem _ hd)
  obtain ⟨i0, e0⟩ := is_v ha0
  obtain rfl : w0 = (.int i0) := Option.some.inj e0
  obtain ⟨i1, e1⟩ := is_v ha1
  obtain rfl : w1 = (.int i1) := Option.some.inj e1
  obtain ⟨i2, e2⟩ := is_v ha2
  obtain rfl : w2 = (.int i2) := Option.some.inj e2
  obtain ⟨i3, e3⟩ := is_v ha3
  obtain rfl : w3 = (.int i3) := Option.some.inj e3
  obtain ⟨i4, e4⟩ := is_v hb4
  obtain rfl : w4 = (.int i4) := Option.some.inj e4
  obtain ⟨n, o, h1, h2, h3, _, L, rfl, ⟨rfl, N⟩, hq⟩ := c_law l s _ hw tables_1 s.heap.size s.heap i0 i1 i2 i3 i4 (Nat.le_refl _) p e ha hc hk s m _ below hf ((Spec.applies_iff_loose hf).mp happ).1 ⟨rfl, State.Warmed39.refl s, rfl⟩ trivial
  refine ⟨n, _, h1, h2, h3, hpost _ _ _ _ _ _ ⟨Cond.after_iff.mpr rfl, Cond.after_iff.mpr (eq_i res_at (Term.int_eval (1)) rfl), trivial⟩ ⟨hq.1, hq.2.1, (hq.2.2.sift fun y hy => Or.inr (N y hy)).mono (by decide) (by decide)⟩⟩
theorem main_1_1 : Claimed_1_1 := comes_1 fun _ _ _ _ _ _ h hF => ⟨h.1, hF⟩
theorem main_1_2 : Claimed_1_2 := comes_1 fun _ _ _ _ _ _ h hF => ⟨h.2.1, hF⟩
end Jvm.Pilot.@@N@@
namespace Jvm.Pilot.@@N@@
open Jvm Jvm.ClassFile Sem Op Lib Jvm.Free Jvm.Stand Jvm.Pilot.@@N@@.Jvm.D
/-! MADE BY PROGRAM (witnessworld.py) out of the Statement's table words and the real class files: 12 classes; the members and pool entries that the words name. The judged class is class 1, her method 1. -/
namespace start1
open Jvm.ClassFile
def u (s : String) : CpInfo := .utf8 (stringToUtf16 s)
/-- a pool by its gaps: so many unusable entries, then the entry; so many at the end -/
def gap : Nat → List CpInfo → List CpInfo
  | 0, r => r
  | n + 1, r => .unusable :: gap n r
def poolList (es : List (Nat × CpInfo)) (last : Nat) : List CpInfo := es.foldr (fun e r => gap e.1 (e.2 :: r)) (gap last [])
def pool (es : List (Nat × CpInfo)) (last : Nat) : Array CpInfo := ⟨poolList es last⟩
def fileOf (pool : Array CpInfo) (this : Nat) (attrs : Array Attribute := #[]) (ms : Array MethodInfo := #[]) (fl : Nat := 33) (sup : Nat := 0) (ifs : Array Nat := #[]) (fds : Array FieldInfo := #[]) : ClassFile where
  minorVersion := 0
  majorVersion := 65
  constantPool := pool
  accessFlags := fl
  thisClass := this
  superClass := sup
  interfaces := ifs
  fields := fds
  methods := ms
  attributes := attrs
def plain (name : String) (sup : Option ClassId) : Class where
  name := name
  kind := .ordinary
  loader := none
  accessFlags := 33
  super := sup
  interfaces := #[]
  cf := none
  fields := #[]
  methods := #[]
  instanceTypes := #[]
  staticTypes := #[]
  resolved := #[]
  callSites := []
  init := .initialized
  statics := none
  mirror := none

def pool0 : Array CpInfo := pool [(5, u "<init>"), (0, u "()V"), (1, .class_ 10), (1, u "java/lang/Object")] 113

def k0c0 : Code := { maxStack := 0, maxLocals := 1, code := object_method_1_code, exceptionTable := #[], attributes := #[] }
def k0m0 : Method := { name := "<init>", desc := "()V", sig := { parameters := [], returnType := none }, accessFlags := 1, code := some k0c0 }
/-- java/lang/Object -/
def k0 : Class := { plain "java/lang/Object" none with
  accessFlags := 33
  interfaces := #[]
  cf := some (fileOf pool0 8 #[] #[{ accessFlags := 1, nameIndex := 5, descriptorIndex := 6, attributes := #[] }] 33 0 #[] #[])
  fields := #[]
  methods := #[k0m0]
  instanceTypes := #[]
  staticTypes := #[]
  resolved := Array.replicate 124 none
  statics := none }

def pool1 : Array CpInfo := pool [(2, .class_ 4), (0, .nameAndType 5 6), (0, u "java/lang/Object"), (0, u "<init>"), (0, u "()V"), (0, .class_ 8), (0, u "com/example/taintline/taintline/analysis/IntArray"), (0, .methodref 7 3), (0, .methodref 7 11), (0, .nameAndType 12 13), (0, u "add"), (0, u "(I)V"), (0, .methodref 7 15), (0, .nameAndType 16 13), (0, u "setLast"), (0, .methodref 7 18), (0, .nameAndType 19 20), (0, u "size"), (0, u "()I"), (0, .methodref 7 22), (0, .nameAndType 23 20), (0, u "last"), (0, .methodref 7 25), (0, .nameAndType 26 27), (0, u "toArray"), (0, u "()[I"), (0, .class_ 29), (0, u "com/example/taintline/taintline/analysis/IntArraySetLastPinLaw"), (2, u "law"), (0, u "(IIIII)Z")] 5

def k1m0 : Method := { name := "<init>", desc := "()V", sig := { parameters := [], returnType := none }, accessFlags := 1, code := none }
def k1c1 : Code := { maxStack := 2, maxLocals := 8, code := code, exceptionTable := #[], attributes := #[] }
def k1m1 : Method := { name := "law", desc := "(IIIII)Z", sig := { parameters := [.int, .int, .int, .int, .int], returnType := some .boolean }, accessFlags := 9, code := some k1c1 }
/-- com/example/taintline/taintline/analysis/IntArraySetLastPinLaw -/
def k1 : Class := { plain "com/example/taintline/taintline/analysis/IntArraySetLastPinLaw" (some 0) with
  accessFlags := 49
  interfaces := #[]
  cf := some (fileOf pool1 28 #[] #[{ accessFlags := 1, nameIndex := 5, descriptorIndex := 6, attributes := #[] }, { accessFlags := 9, nameIndex := 32, descriptorIndex := 33, attributes := #[] }] 49 2 #[] #[])
  fields := #[]
  methods := #[k1m0, k1m1]
  instanceTypes := #[]
  staticTypes := #[]
  resolved := Array.replicate 39 none
  statics := none }

def pool2 : Array CpInfo := pool [(1, .methodref 2 3), (0, .class_ 4), (0, .nameAndType 5 6), (0, u "java/lang/Object"), (0, u "<init>"), (0, u "()V"), (0, .fieldref 8 9), (0, .class_ 10), (0, .nameAndType 11 12), (0, u "com/example/taintline/taintline/analysis/IntArray"), (0, u "numbers"), (0, u "[I"), (0, .fieldref 8 14), (0, .nameAndType 15 16), (0, u "size"), (0, u "I"), (0, .methodref 18 19), (0, .class_ 20), (0, .nameAndType 21 22), (0, u "java/util/Arrays"), (0, u "copyOf"), (0, u "([II)[I"), (2, u "add"), (0, u "(I)V"), (1, u "()I"), (0, u "last"), (0, u "setLast"), (1, u "toArray"), (0, u "()[I")] 2

def k2c0 : Code := { maxStack := 2, maxLocals := 1, code := prog_5_method_1_code, exceptionTable := #[], attributes := #[] }
def k2m0 : Method := { name := "<init>", desc := "()V", sig := { parameters := [], returnType := none }, accessFlags := 0, code := some k2c0 }
def k2c1 : Code := { maxStack := 4, maxLocals := 2, code := prog_5_method_2_code, exceptionTable := #[], attributes := #[] }
def k2m1 : Method := { name := "add", desc := "(I)V", sig := { parameters := [.int], returnType := none }, accessFlags := 0, code := some k2c1 }
def k2c2 : Code := { maxStack := 1, maxLocals := 1, code := prog_5_method_3_code, exceptionTable := #[], attributes := #[] }
def k2m2 : Method := { name := "size", desc := "()I", sig := { parameters := [], returnType := some .int }, accessFlags := 0, code := some k2c2 }
def k2c3 : Code := { maxStack := 3, maxLocals := 1, code := prog_5_method_4_code, exceptionTable := #[], attributes := #[] }
def k2m3 : Method := { name := "last", desc := "()I", sig := { parameters := [], returnType := some .int }, accessFlags := 0, code := some k2c3 }
def k2c4 : Code := { maxStack := 3, maxLocals := 2, code := prog_5_method_5_code, exceptionTable := #[], attributes := #[] }
def k2m4 : Method := { name := "setLast", desc := "(I)V", sig := { parameters := [.int], returnType := none }, accessFlags := 0, code := some k2c4 }
def k2c5 : Code := { maxStack := 2, maxLocals := 1, code := prog_5_method_7_code, exceptionTable := #[], attributes := #[] }
def k2m5 : Method := { name := "toArray", desc := "()[I", sig := { parameters := [], returnType := some (.array .int) }, accessFlags := 0, code := some k2c5 }
/-- com/example/taintline/taintline/analysis/IntArray -/
def k2 : Class := { plain "com/example/taintline/taintline/analysis/IntArray" (some 0) with
  accessFlags := 48
  interfaces := #[]
  cf := some (fileOf pool2 8 #[] #[{ accessFlags := 0, nameIndex := 5, descriptorIndex := 6, attributes := #[] }, { accessFlags := 0, nameIndex := 25, descriptorIndex := 26, attributes := #[] }, { accessFlags := 0, nameIndex := 15, descriptorIndex := 28, attributes := #[] }, { accessFlags := 0, nameIndex := 29, descriptorIndex := 28, attributes := #[] }, { accessFlags := 0, nameIndex := 30, descriptorIndex := 26, attributes := #[] }, { accessFlags := 0, nameIndex := 32, descriptorIndex := 33, attributes := #[] }] 48 2 #[] #[{ accessFlags := 2, nameIndex := 11, descriptorIndex := 12, attributes := #[] }, { accessFlags := 2, nameIndex := 15, descriptorIndex := 16, attributes := #[] }])
  fields := #[{ name := "numbers", type := (.array .int), accessFlags := 2, slot := 0, constantValue := 0 }, { name := "size", type := .int, accessFlags := 2, slot := 1, constantValue := 0 }]
  methods := #[k2m0, k2m1, k2m2, k2m3, k2m4, k2m5]
  instanceTypes := #[(.array .int), .int]
  staticTypes := #[]
  resolved := Array.replicate 36 none
  statics := none }

def pool3 : Array CpInfo := pool [(2, .class_ 4), (1, u "java/lang/Object"), (0, u "<init>"), (0, u "()V"), (7, .class_ 16), (1, u "java/util/Arrays"), (57, .class_ 76), (1, u "java/util/Arrays$NaturalOrder"), (36, .class_ 115), (1, u "java/util/Arrays$LegacyMergeSort"), (1, u "Z"), (32, .methodref 151 152), (0, .class_ 153), (0, .nameAndType 154 155), (0, u "java/lang/System"), (0, u "arraycopy"), (0, u "(Ljava/lang/Object;ILjava/lang/Object;II)V"), (146, u "copyOf"), (1, .methodref 305 306), (0, .class_ 307), (0, .nameAndType 308 309), (0, u "java/lang/Math"), (0, u "min"), (0, u "(II)I"), (65, .class_ 376), (0, u "java/util/Arrays$ArrayList"), (68, u "$assertionsDisabled"), (269, u "MIN_ARRAY_SORT_GRAN"), (0, u "I"), (2, u "INSERTIONSORT_THRESHOLD"), (151, u "([II)[I"), (103, .class_ 976), (0, u "java/util/Arrays$ArrayItr")] 52

def k3m0 : Method := { name := "<init>", desc := "()V", sig := { parameters := [], returnType := none }, accessFlags := 2, code := none }
def k3c1 : Code := { maxStack := 6, maxLocals := 3, code := jdk_65_method_123_code, exceptionTable := #[], attributes := #[] }
def k3m1 : Method := { name := "copyOf", desc := "([II)[I", sig := { parameters := [(.array .int), .int], returnType := some (.array .int) }, accessFlags := 9, code := some k3c1 }
/-- java/util/Arrays -/
def k3 : Class := { plain "java/util/Arrays" (some 0) with
  accessFlags := 49
  interfaces := #[]
  cf := some (fileOf pool3 14 #[.nestMembers #[975, 375, 113, 74]] #[{ accessFlags := 2, nameIndex := 5, descriptorIndex := 6, attributes := #[] }, { accessFlags := 9, nameIndex := 302, descriptorIndex := 871, attributes := #[] }] 49 2 #[] #[{ accessFlags := 26, nameIndex := 715, descriptorIndex := 716, attributes := #[] }, { accessFlags := 26, nameIndex := 719, descriptorIndex := 716, attributes := #[] }, { accessFlags := 4120, nameIndex := 445, descriptorIndex := 117, attributes := #[] }])
  fields := #[{ name := "MIN_ARRAY_SORT_GRAN", type := .int, accessFlags := 26, slot := 0, constantValue := 0 }, { name := "INSERTIONSORT_THRESHOLD", type := .int, accessFlags := 26, slot := 1, constantValue := 0 }, { name := "$assertionsDisabled", type := .boolean, accessFlags := 4120, slot := 2, constantValue := 0 }]
  methods := #[k3m0, k3m1]
  instanceTypes := #[]
  staticTypes := #[.int, .int, .boolean]
  resolved := Array.replicate 1029 none
  statics := none }

def pool4 : Array CpInfo := pool [(1, .class_ 2), (0, u "java/lang/Math"), (1, .class_ 6), (1, u "java/lang/Object"), (0, u "<init>"), (0, u "()V"), (89, .class_ 100), (1, u "java/lang/Math$RandomNumberGeneratorHolder"), (71, u "negativeZeroFloatBits"), (0, u "J"), (2, u "negativeZeroDoubleBits"), (24, u "min"), (43, u "$assertionsDisabled"), (0, u "Z"), (88, u "(II)I"), (2, u "twoToTheDoubleScaleDown"), (0, u "D"), (4, u "twoToTheDoubleScaleUp"), (9, u "E"), (3, u "PI"), (2, u "TAU"), (2, u "DEGREES_TO_RADIANS"), (0, u "RADIANS_TO_DEGREES")] 94

def k4m0 : Method := { name := "<init>", desc := "()V", sig := { parameters := [], returnType := none }, accessFlags := 2, code := none }
def k4c1 : Code := { maxStack := 2, maxLocals := 2, code := jdk_29_method_69_code, exceptionTable := #[], attributes := #[] }
def k4m1 : Method := { name := "min", desc := "(II)I", sig := { parameters := [.int, .int], returnType := some .int }, accessFlags := 9, code := some k4c1 }
/-- java/lang/Math -/
def k4 : Class := { plain "java/lang/Math" (some 0) with
  accessFlags := 49
  interfaces := #[]
  cf := some (fileOf pool4 1 #[.nestMembers #[98]] #[{ accessFlags := 2, nameIndex := 7, descriptorIndex := 8, attributes := #[] }, { accessFlags := 9, nameIndex := 201, descriptorIndex := 335, attributes := #[] }] 49 4 #[] #[{ accessFlags := 25, nameIndex := 354, descriptorIndex := 339, attributes := #[] }, { accessFlags := 25, nameIndex := 358, descriptorIndex := 339, attributes := #[] }, { accessFlags := 25, nameIndex := 361, descriptorIndex := 339, attributes := #[] }, { accessFlags := 26, nameIndex := 364, descriptorIndex := 339, attributes := #[] }, { accessFlags := 26, nameIndex := 365, descriptorIndex := 339, attributes := #[] }, { accessFlags := 26, nameIndex := 172, descriptorIndex := 173, attributes := #[] }, { accessFlags := 26, nameIndex := 176, descriptorIndex := 173, attributes := #[] }, { accessFlags := 8, nameIndex := 344, descriptorIndex := 339, attributes := #[] }, { accessFlags := 8, nameIndex := 338, descriptorIndex := 339, attributes := #[] }, { accessFlags := 4120, nameIndex := 245, descriptorIndex := 246, attributes := #[] }])
  fields := #[{ name := "E", type := .double, accessFlags := 25, slot := 0, constantValue := 0 }, { name := "PI", type := .double, accessFlags := 25, slot := 1, constantValue := 0 }, { name := "TAU", type := .double, accessFlags := 25, slot := 2, constantValue := 0 }, { name := "DEGREES_TO_RADIANS", type := .double, accessFlags := 26, slot := 3, constantValue := 0 }, { name := "RADIANS_TO_DEGREES", type := .double, accessFlags := 26, slot := 4, constantValue := 0 }, { name := "negativeZeroFloatBits", type := .long, accessFlags := 26, slot := 5, constantValue := 0 }, { name := "negativeZeroDoubleBits", type := .long, accessFlags := 26, slot := 6, constantValue := 0 }, { name := "twoToTheDoubleScaleUp", type := .double, accessFlags := 8, slot := 7, constantValue := 0 }, { name := "twoToTheDoubleScaleDown", type := .double, accessFlags := 8, slot := 8, constantValue := 0 }, { name := "$assertionsDisabled", type := .boolean, accessFlags := 4120, slot := 9, constantValue := 0 }]
  methods := #[k4m0, k4m1]
  instanceTypes := #[]
  staticTypes := #[.double, .double, .double, .double, .double, .long, .long, .double, .double, .boolean]
  resolved := Array.replicate 460 none
  statics := none }

def pool5 : Array CpInfo := pool [(2, .class_ 4), (1, u "java/lang/Object"), (0, u "<init>"), (0, u "()V"), (1, .class_ 10), (1, u "java/lang/System"), (0, u "allowSecurityManager"), (0, u "I"), (16, u "cons"), (0, u "Ljava/io/Console;"), (77, .class_ 110), (1, u "java/lang/System$CallersHolder"), (43, u "initialErrStream"), (0, u "Ljava/io/PrintStream;"), (19, u "security"), (0, u "Ljava/lang/SecurityManager;"), (31, .class_ 209), (0, u "java/lang/System$1"), (7, u "props"), (0, u "Ljava/util/Properties;"), (2, u "lineSeparator"), (0, u "Ljava/lang/String;"), (96, .class_ 321), (1, u "java/lang/System$LoggerFinder"), (5, .class_ 328), (0, u "java/lang/System$Logger"), (67, u "err"), (2, u "out"), (91, u "notSupportedJnuEncoding"), (15, u "in"), (17, u "initialIn"), (0, u "Ljava/io/InputStream;"), (35, u "bootLayer"), (0, u "Ljava/lang/ModuleLayer;"), (99, .class_ 664), (0, u "java/lang/System$2"), (9, u "NEVER"), (2, u "MAYBE"), (49, u "arraycopy"), (0, u "(Ljava/lang/Object;ILjava/lang/Object;II)V"), (72, .class_ 802), (0, u "java/lang/System$Logger$Level")] 31

def k5m0 : Method := { name := "<init>", desc := "()V", sig := { parameters := [], returnType := none }, accessFlags := 2, code := none }
def k5m1 : Method := { name := "arraycopy", desc := "(Ljava/lang/Object;ILjava/lang/Object;II)V", sig := { parameters := [(.object "java/lang/Object"), .int, (.object "java/lang/Object"), .int, .int], returnType := none }, accessFlags := 265, code := none }
/-- java/lang/System -/
def k5 : Class := { plain "java/lang/System" (some 0) with
  accessFlags := 49
  interfaces := #[]
  cf := some (fileOf pool5 8 #[.nestMembers #[319, 327, 801, 108, 663, 208]] #[{ accessFlags := 2, nameIndex := 5, descriptorIndex := 6, attributes := #[] }, { accessFlags := 265, nameIndex := 727, descriptorIndex := 728, attributes := #[] }] 49 2 #[] #[{ accessFlags := 25, nameIndex := 507, descriptorIndex := 526, attributes := #[] }, { accessFlags := 25, nameIndex := 399, descriptorIndex := 155, attributes := #[] }, { accessFlags := 25, nameIndex := 396, descriptorIndex := 155, attributes := #[] }, { accessFlags := 10, nameIndex := 525, descriptorIndex := 526, attributes := #[] }, { accessFlags := 26, nameIndex := 674, descriptorIndex := 12, attributes := #[] }, { accessFlags := 26, nameIndex := 677, descriptorIndex := 12, attributes := #[] }, { accessFlags := 10, nameIndex := 11, descriptorIndex := 12, attributes := #[] }, { accessFlags := 74, nameIndex := 175, descriptorIndex := 176, attributes := #[] }, { accessFlags := 10, nameIndex := 491, descriptorIndex := 222, attributes := #[] }, { accessFlags := 74, nameIndex := 29, descriptorIndex := 30, attributes := #[] }, { accessFlags := 74, nameIndex := 154, descriptorIndex := 155, attributes := #[] }, { accessFlags := 10, nameIndex := 217, descriptorIndex := 218, attributes := #[] }, { accessFlags := 10, nameIndex := 221, descriptorIndex := 222, attributes := #[] }, { accessFlags := 8, nameIndex := 562, descriptorIndex := 563, attributes := #[] }])
  fields := #[{ name := "in", type := (.object "java/io/InputStream"), accessFlags := 25, slot := 0, constantValue := 0 }, { name := "out", type := (.object "java/io/PrintStream"), accessFlags := 25, slot := 1, constantValue := 0 }, { name := "err", type := (.object "java/io/PrintStream"), accessFlags := 25, slot := 2, constantValue := 0 }, { name := "initialIn", type := (.object "java/io/InputStream"), accessFlags := 10, slot := 3, constantValue := 0 }, { name := "NEVER", type := .int, accessFlags := 26, slot := 4, constantValue := 0 }, { name := "MAYBE", type := .int, accessFlags := 26, slot := 5, constantValue := 0 }, { name := "allowSecurityManager", type := .int, accessFlags := 10, slot := 6, constantValue := 0 }, { name := "security", type := (.object "java/lang/SecurityManager"), accessFlags := 74, slot := 7, constantValue := 0 }, { name := "notSupportedJnuEncoding", type := (.object "java/lang/String"), accessFlags := 10, slot := 8, constantValue := 0 }, { name := "cons", type := (.object "java/io/Console"), accessFlags := 74, slot := 9, constantValue := 0 }, { name := "initialErrStream", type := (.object "java/io/PrintStream"), accessFlags := 74, slot := 10, constantValue := 0 }, { name := "props", type := (.object "java/util/Properties"), accessFlags := 10, slot := 11, constantValue := 0 }, { name := "lineSeparator", type := (.object "java/lang/String"), accessFlags := 10, slot := 12, constantValue := 0 }, { name := "bootLayer", type := (.object "java/lang/ModuleLayer"), accessFlags := 8, slot := 13, constantValue := 0 }]
  methods := #[k5m0, k5m1]
  instanceTypes := #[]
  staticTypes := #[(.object "java/io/InputStream"), (.object "java/io/PrintStream"), (.object "java/io/PrintStream"), (.object "java/io/InputStream"), .int, .int, .int, (.object "java/lang/SecurityManager"), (.object "java/lang/String"), (.object "java/io/Console"), (.object "java/io/PrintStream"), (.object "java/util/Properties"), (.object "java/lang/String"), (.object "java/lang/ModuleLayer")]
  resolved := Array.replicate 834 none
  statics := none }

def pool6 : Array CpInfo := pool [(1, u "java/lang/Cloneable"), (0, .class_ 1), (0, u "java/lang/Object"), (0, .class_ 3)] 3

/-- java/lang/Cloneable -/
def k6 : Class := { plain "java/lang/Cloneable" (some 0) with
  accessFlags := 1537
  interfaces := #[]
  cf := some (fileOf pool6 2 #[] #[] 1537 4 #[] #[])
  fields := #[]
  methods := #[]
  instanceTypes := #[]
  staticTypes := #[]
  resolved := Array.replicate 8 none
  statics := none }

def pool7 : Array CpInfo := pool [(1, u "java/io/Serializable"), (0, .class_ 1), (0, u "java/lang/Object"), (0, .class_ 3)] 3

/-- java/io/Serializable -/
def k7 : Class := { plain "java/io/Serializable" (some 0) with
  accessFlags := 1537
  interfaces := #[]
  cf := some (fileOf pool7 2 #[] #[] 1537 4 #[] #[])
  fields := #[]
  methods := #[]
  instanceTypes := #[]
  staticTypes := #[]
  resolved := Array.replicate 8 none
  statics := none }

/-- the primitive byte -/
def k8 : Class := { plain "byte" none with kind := .primitive 'B', accessFlags := 0x411 }
/-- [B -/
def k9 : Class := { plain "[B" (some 0) with kind := .array 8 .byte, interfaces := #[6, 7], accessFlags := 1041 }

/-- the primitive int -/
def k10 : Class := { plain "int" none with kind := .primitive 'I', accessFlags := 0x411 }
/-- [I -/
def k11 : Class := { plain "[I" (some 0) with kind := .array 10 .int, interfaces := #[6, 7], accessFlags := 1041 }

def heap : Heap := #[]
def classes : Array Class := #[k0, k1, k2, k3, k4, k5, k6, k7, k8, k9, k10, k11]
def interned : List (Array UInt16 × Addr) := []
def slotsUsed : Nat := 0
def theMethod : MethodId := ⟨1, 1⟩
def args0 : Array Value := #[.int 5, .int 3, .int 7, .int 9, .int 1]
def aboutOver (below : List Frame) : State where
  vm := { classes := classes, interned := interned.toArray }
  heap := heap
  slotsUsed := slotsUsed
  threads := #[{ frames := .invoking theMethod args0 :: below }]
def below0 : List Frame := [.native { method := ⟨0, 0⟩, args := #[] }]
def about1 : State := aboutOver below0
def p0 : Program := .bare "" "" ""
def e0 : Env := launch0.env 0 0 0
theorem w_frames : about1.frames = Frame.invoking theMethod args0 :: below0 := rfl
set_option maxRecDepth 65536 in
theorem w_args : argsFit about1.vm theMethod args0 = true := by decide +kernel
set_option maxRecDepth 65536 in
theorem w_heap : heapFits about1 = true := by decide +kernel
set_option maxRecDepth 65536 in
theorem w_runnable : about1.curStatus? = some .runnable := by decide +kernel
set_option maxRecDepth 65536 in
theorem w_alone : about1.alone = true := by decide +kernel
set_option maxRecDepth 65536 in
theorem w_named : about1.methodNamed? x = some theMethod := by decide +kernel
set_option maxRecDepth 65536 in
theorem w_hears : about1.hears theMethod below0 = true := by decide +kernel
set_option maxRecDepth 65536 in
theorem w_ripe : about1.ripe theMethod args0 below0 = true := by decide +kernel
theorem w_running : about1.status = .running := rfl
set_option maxRecDepth 65536 in
theorem w_room : about1.hasRoom e0.platform room_1 = true :=
  launch0.hasRoom_least _ room_1 (by decide +kernel) (by decide +kernel) (by decide +kernel) (by decide +kernel) (by decide +kernel) (by decide +kernel)
theorem allAtoms_all (ts : List Jvm.Cond) (a : Array Jvm.Value) (st : Jvm.State) : (allAtoms ts).before a st = ts.all (fun c => c.before a st) := by
  induction ts with
  | nil => rfl
  | cons c t ih =>
    show (Jvm.Cond.and c (allAtoms t)).before a st = _
    rw [Jvm.Cond.before_and, ih, List.all_cons]
def words1 : List Jvm.Cond := Jvm.Cond.code x code maxLocals ret :: tables_1
/-- a 'code' word, met by the world's own term for the bytes: nothing is compared byte by byte -/
theorem code_word {y : MethodName} {bytes : ByteArray} {mx : Nat} {rt : Option FieldType} {a : Array Value} {s : State} {m : MethodId} {meth : Method} {c : Code} (h1 : s.methodNamed? y = some m) (h2 : s.vm.method? m = some meth) (h3 : meth.code = some c) (h4 : c.code = bytes)
    (h5 : (c.maxLocals == mx && c.exceptionTable.isEmpty && decide (c.maxStack ≤ mostOperands) && decide (meth.sig.returnType = rt) && !meth.locks && decide (parseMethodDescriptor y.desc = some meth.sig)) = true) : (Jvm.Cond.code y bytes mx rt).before a s = true := by
  simp only [Bool.and_eq_true, beq_iff_eq, Bool.not_eq_true', decide_eq_true_eq] at h5
  obtain ⟨⟨⟨⟨⟨g1, g2⟩, g3⟩, g4⟩, g5⟩, g6⟩ := h5
  simp [Cond.before, Cond.holds, Cond.value, h1, h2, h3, h4, g1, g2, g3, g4, g5, g6]
def isCode : Jvm.Cond → Bool
  | .code _ _ _ _ => true
  | _ => false
theorem all_split {L : List Jvm.Cond} {P : Jvm.Cond → Bool} (h1 : L.all (fun c => isCode c || P c) = true) (h2 : ∀ c ∈ L.filter isCode, P c = true) : L.all P = true := by
  refine List.all_eq_true.mpr fun c hc => ?_
  have h := List.all_eq_true.mp h1 c hc
  rcases Bool.eq_false_or_eq_true (isCode c) with hi | hi
  · exact h2 c (List.mem_filter.mpr ⟨hc, hi⟩)
  · simpa [hi] using h
set_option maxRecDepth 65536 in
theorem w_c0 : (Jvm.Cond.code x code maxLocals ret).before args0 about1 = true := code_word (m := ⟨1, 1⟩) (meth := k1m1) (c := k1c1) (by decide +kernel) rfl rfl rfl (by decide +kernel)
set_option maxRecDepth 65536 in
theorem w_c1 : (Jvm.Cond.code ({ cls := "com/example/taintline/taintline/analysis/IntArray", name := "<init>", desc := "()V" } : Jvm.MethodName) prog_5_method_1_code (1 : Nat) (Option.none : Option Jvm.ClassFile.FieldType)).before args0 about1 = true := code_word (m := ⟨2, 0⟩) (meth := k2m0) (c := k2c0) (by decide +kernel) rfl rfl rfl (by decide +kernel)
set_option maxRecDepth 65536 in
theorem w_c2 : (Jvm.Cond.code ({ cls := "java/lang/Object", name := "<init>", desc := "()V" } : Jvm.MethodName) object_method_1_code (1 : Nat) (Option.none : Option Jvm.ClassFile.FieldType)).before args0 about1 = true := code_word (m := ⟨0, 0⟩) (meth := k0m0) (c := k0c0) (by decide +kernel) rfl rfl rfl (by decide +kernel)
set_option maxRecDepth 65536 in
theorem w_c3 : (Jvm.Cond.code ({ cls := "com/example/taintline/taintline/analysis/IntArray", name := "add", desc := "(I)V" } : Jvm.MethodName) prog_5_method_2_code (2 : Nat) (Option.none : Option Jvm.ClassFile.FieldType)).before args0 about1 = true := code_word (m := ⟨2, 1⟩) (meth := k2m1) (c := k2c1) (by decide +kernel) rfl rfl rfl (by decide +kernel)
set_option maxRecDepth 65536 in
theorem w_c4 : (Jvm.Cond.code ({ cls := "com/example/taintline/taintline/analysis/IntArray", name := "setLast", desc := "(I)V" } : Jvm.MethodName) prog_5_method_5_code (2 : Nat) (Option.none : Option Jvm.ClassFile.FieldType)).before args0 about1 = true := code_word (m := ⟨2, 4⟩) (meth := k2m4) (c := k2c4) (by decide +kernel) rfl rfl rfl (by decide +kernel)
set_option maxRecDepth 65536 in
theorem w_c5 : (Jvm.Cond.code ({ cls := "com/example/taintline/taintline/analysis/IntArray", name := "size", desc := "()I" } : Jvm.MethodName) prog_5_method_3_code (1 : Nat) (Option.some Jvm.ClassFile.FieldType.int)).before args0 about1 = true := code_word (m := ⟨2, 2⟩) (meth := k2m2) (c := k2c2) (by decide +kernel) rfl rfl rfl (by decide +kernel)
set_option maxRecDepth 65536 in
theorem w_c6 : (Jvm.Cond.code ({ cls := "com/example/taintline/taintline/analysis/IntArray", name := "last", desc := "()I" } : Jvm.MethodName) prog_5_method_4_code (1 : Nat) (Option.some Jvm.ClassFile.FieldType.int)).before args0 about1 = true := code_word (m := ⟨2, 3⟩) (meth := k2m3) (c := k2c3) (by decide +kernel) rfl rfl rfl (by decide +kernel)
set_option maxRecDepth 65536 in
theorem w_c7 : (Jvm.Cond.code ({ cls := "com/example/taintline/taintline/analysis/IntArray", name := "toArray", desc := "()[I" } : Jvm.MethodName) prog_5_method_7_code (1 : Nat) (Option.some (Jvm.ClassFile.FieldType.array Jvm.ClassFile.FieldType.int))).before args0 about1 = true := code_word (m := ⟨2, 5⟩) (meth := k2m5) (c := k2c5) (by decide +kernel) rfl rfl rfl (by decide +kernel)
set_option maxRecDepth 65536 in
theorem w_c8 : (Jvm.Cond.code ({ cls := "java/util/Arrays", name := "copyOf", desc := "([II)[I" } : Jvm.MethodName) jdk_65_method_123_code (3 : Nat) (Option.some (Jvm.ClassFile.FieldType.array Jvm.ClassFile.FieldType.int))).before args0 about1 = true := code_word (m := ⟨3, 1⟩) (meth := k3m1) (c := k3c1) (by decide +kernel) rfl rfl rfl (by decide +kernel)
set_option maxRecDepth 65536 in
theorem w_c9 : (Jvm.Cond.code ({ cls := "java/lang/Math", name := "min", desc := "(II)I" } : Jvm.MethodName) jdk_29_method_69_code (2 : Nat) (Option.some Jvm.ClassFile.FieldType.int)).before args0 about1 = true := code_word (m := ⟨4, 1⟩) (meth := k4m1) (c := k4c1) (by decide +kernel) rfl rfl rfl (by decide +kernel)
def codes1 : List Jvm.Cond := [Jvm.Cond.code x code maxLocals ret, Jvm.Cond.code ({ cls := "com/example/taintline/taintline/analysis/IntArray", name := "<init>", desc := "()V" } : Jvm.MethodName) prog_5_method_1_code (1 : Nat) (Option.none : Option Jvm.ClassFile.FieldType), Jvm.Cond.code ({ cls := "java/lang/Object", name := "<init>", desc := "()V" } : Jvm.MethodName) object_method_1_code (1 : Nat) (Option.none : Option Jvm.ClassFile.FieldType), Jvm.Cond.code ({ cls := "com/example/taintline/taintline/analysis/IntArray", name := "add", desc := "(I)V" } : Jvm.MethodName) prog_5_method_2_code (2 : Nat) (Option.none : Option Jvm.ClassFile.FieldType), Jvm.Cond.code ({ cls := "com/example/taintline/taintline/analysis/IntArray", name := "setLast", desc := "(I)V" } : Jvm.MethodName) prog_5_method_5_code (2 : Nat) (Option.none : Option Jvm.ClassFile.FieldType), Jvm.Cond.code ({ cls := "com/example/taintline/taintline/analysis/IntArray", name := "size", desc := "()I" } : Jvm.MethodName) prog_5_method_3_code (1 : Nat) (Option.some Jvm.ClassFile.FieldType.int), Jvm.Cond.code ({ cls := "com/example/taintline/taintline/analysis/IntArray", name := "last", desc := "()I" } : Jvm.MethodName) prog_5_method_4_code (1 : Nat) (Option.some Jvm.ClassFile.FieldType.int), Jvm.Cond.code ({ cls := "com/example/taintline/taintline/analysis/IntArray", name := "toArray", desc := "()[I" } : Jvm.MethodName) prog_5_method_7_code (1 : Nat) (Option.some (Jvm.ClassFile.FieldType.array Jvm.ClassFile.FieldType.int)), Jvm.Cond.code ({ cls := "java/util/Arrays", name := "copyOf", desc := "([II)[I" } : Jvm.MethodName) jdk_65_method_123_code (3 : Nat) (Option.some (Jvm.ClassFile.FieldType.array Jvm.ClassFile.FieldType.int)), Jvm.Cond.code ({ cls := "java/lang/Math", name := "min", desc := "(II)I" } : Jvm.MethodName) jdk_29_method_69_code (2 : Nat) (Option.some Jvm.ClassFile.FieldType.int)]
set_option maxRecDepth 65536 in
theorem codes_eq : words1.filter isCode = codes1 := rfl
theorem w_codes : ∀ c ∈ words1.filter isCode, c.before args0 about1 = true := by
  rw [codes_eq]
  intro c hc
  simp only [codes1, List.mem_cons, List.not_mem_nil, or_false] at hc
  rcases hc with rfl | rfl | rfl | rfl | rfl | rfl | rfl | rfl | rfl | rfl
  · exact w_c0
  · exact w_c1
  · exact w_c2
  · exact w_c3
  · exact w_c4
  · exact w_c5
  · exact w_c6
  · exact w_c7
  · exact w_c8
  · exact w_c9
set_option maxRecDepth 65536 in
theorem w_t1 : (words1.take 24).all (fun c => isCode c || c.before args0 about1) = true := by decide +kernel
set_option maxRecDepth 65536 in
theorem w_t2 : ((words1.drop 24).take 24).all (fun c => isCode c || c.before args0 about1) = true := by decide +kernel
set_option maxRecDepth 65536 in
theorem w_t3 : ((words1.drop 24).drop 24).all (fun c => isCode c || c.before args0 about1) = true := by decide +kernel
theorem w_tables : (allAtoms (Jvm.Cond.code x code maxLocals ret :: tables_1)).before args0 about1 = true := by
  rw [allAtoms_all]
  show words1.all (fun c => c.before args0 about1) = true
  refine all_split ?_ w_codes
  rw [← List.take_append_drop 24 words1, List.all_append, w_t1, ← List.take_append_drop 24 (words1.drop 24), List.all_append, w_t2, w_t3]
  rfl
set_option maxRecDepth 65536 in
theorem w_case : (Jvm.Cond.and given_1 narrow_1).before args0 about1 = true := by decide +kernel
theorem w_applies : (headSpec (Jvm.Cond.code x code maxLocals ret :: tables_1) room_1).applies x e0.platform about1 = true :=
  (Spec.applies_iff w_frames).mpr ⟨w_running, w_runnable, w_alone, w_named, w_hears, w_ripe, w_room, w_tables⟩
theorem atStart : AtStart classFile x code maxLocals ret World_1 tables_1 room_1 Calls_1 rest_1 Pre_1 launch0 p0 e0 about1 theMethod args0 below0 :=
  ⟨lists_1, trivial, launch0.admits_env _ _ _, launch0.least_env, fairChoices_fair.cas, fairChoices_fair.clock, w_frames, w_args, w_heap, w_applies, trivial, trivial, w_case⟩
end start1
theorem witness_1 : WitnessClaimed_1 := ⟨start1.p0, start1.e0, start1.about1, start1.theMethod, start1.args0, start1.below0, start1.atStart⟩
end Jvm.Pilot.@@N@@
