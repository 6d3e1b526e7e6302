import JvmDerived
import JvmDerived.Pilot.@@N@@Statement
import JvmDerived.Pilot.@@N@@Code
set_option linter.unusedVariables false
set_option linter.unusedSimpArgs false
namespace Jvm.Pilot.@@N@@
open Jvm Jvm.ClassFile Sem Op Lib Jvm.Free Jvm.Stand Jvm.LawKit Jvm.RoadKit Bundle Jvm.Pilot.@@N@@.Jvm.D
/-! ## THE LAYER OF THIS SEAT (GoKit): one predicate 'Go': from this pc, these locals and this stack, over the heap h, with k cells and n slots made, the body ends as Q says -/
abbrev Noise : Type := Program × Launch × Env × State × MethodId × Array Value × List Frame × Method × Code
def Cx (E : Noise) (Z : State) (own nm : String) (bytes : ByteArray) (mx : Nat) (rt : Option FieldType) : Prop :=
  E.1.tables.exec = Jvm.exec ∧ E.2.2.2.2.2.2.2.2.code = bytes ∧ E.2.2.2.2.2.2.2.2.maxLocals = mx ∧ Z.Warmed39 E.2.2.2.1.vm ∧ E.2.2.2.1.vm.findClass own = some E.2.2.2.2.1.cls ∧ E.2.2.2.2.2.2.2.1.sig.returnType = rt ∧ E.2.2.2.2.2.2.2.1.locks = false ∧ E.2.2.2.2.2.2.2.1.name = nm
abbrev Sd (E : Noise) (R : Room) (T : State) (locs : List Loc) (k n : Nat) : Prop := Stand E.1 E.2.1 E.2.2.1 R E.2.2.2.1 E.2.2.2.2.1 E.2.2.2.2.2.1 E.2.2.2.2.2.2.1 E.2.2.2.2.2.2.2.1 E.2.2.2.2.2.2.2.2 T locs k n
abbrev Sp (E : Noise) (a b : State) : Prop := Steps E.1.tables E.2.2.1 E.2.2.2.2.2.2.1 a b
def Go (E : Noise) (R : Room) (n0 : Nat) (Q : Option Value → Heap → Prop) (h : Heap) (k n : Nat) (pc : Nat) (Ls : Array Slot) (st : List Value) : Prop :=
  ∀ (T : State) (locs : List Loc), Sd E R T locs k n → T.heap = h → Fr n0 locs →
    ∃ s₂ o, Sp E (T.setTop (mkF E.2.2.2.2.1 pc Ls st)) s₂ ∧ s₂.status = .running ∧ Ended s₂ E.2.2.2.2.2.2.1 o ∧ ∃ v L, o = .returned v ∧ (Q v s₂.heap ∧ Fr n0 L) ∧ FrameEnd E.2.2.2.1 o s₂ L R.cells R.slots
def Met (Z : State) (y : MethodName) (bytes : ByteArray) (mx : Nat) (rt : Option FieldType) (R : Room) (as : Array Value) (h0 : Heap) (n0 : Nat) (Q : Option Value → Heap → Prop) : Prop :=
  ∀ (l : Launch) (ws : List Jvm.Cond), MetFree l y (head1 (Jvm.Cond.code y bytes mx rt :: ws) R) (fun a U => a = as ∧ Z.Warmed39 U.vm ∧ U.heap = h0) (fun _ _ _ _ _ => True)
    (fun _ U o U' => ∃ v L, o = .returned v ∧ (Q v U'.heap ∧ Fr n0 L) ∧ FrameEnd U o U' L R.cells R.slots)
section GoKit
variable {E : Noise} {Z : State} {own nm : String} {bytes : ByteArray} {mx : Nat} {rt : Option FieldType} {R : Room} {n0 : Nat} {Q : Option Value → Heap → Prop} {h : Heap} {k n : Nat} {pc pc' : Nat} {Ls Ls' : Array Slot} {st rest : List Value} {a0 : Array Value}
theorem own_w {i : Nat} {d : Jvm.Cond} (hw : ∀ d ∈ tables_1, d.before a0 Z = true) (q : tables_1[i]? = some d) : d.before a0 Z = true := hw _ (List.mem_of_getElem? q)
theorem nne {x y : Nat} (q : x ≠ y) : @Ne Jvm.Addr x y := q
theorem nnS {x y : Nat} {L : List Nat} (q : x ≠ y) (r : x ∉ L) : x ∉ y :: L := ninS q r
theorem exa_lt {a : Nat} {K : String} (F : Exa Z h a K) : a < h.size := F.lt
theorem keep_wr {h0 h' : Heap} {ws : List Nat} {a sl : Nat} {v : Value} (K : Keep h0 h ws) (W : Wr h h' a sl v) (q : h0.size ≤ a) : Keep h0 h' ws := K.wr W (Or.inr q)
theorem met_of {y : MethodName} {as : Array Value} {h0 : Heap} (hpn : plainName y.cls = true) (hent : ∀ m, entryFrame m as mx = mkF m 0 Ls [])
    (H : ∀ E : Noise, Cx E Z y.cls y.name bytes mx rt → Go E R n0 Q h0 0 0 0 Ls []) : Met Z y bytes mx rt R as h0 n0 Q := by
  intro l ws
  refine MetFree.of_bodySF (plainFor_of_name hpn) hisR ?_
  intro p e s m args below meth c s₁ Bd hml0 hP hK
  obtain ⟨rfl, hZ, hh⟩ := hP
  have hown : s.vm.findClass y.cls = some m.cls := findClass_of_methodNamed Bd.named
  have X0 : Stand p l e R s m args below meth c s₁ [] 0 0 := Stand.of_body Bd
  have e0 : s₁.heap = h0 := by rw [← hh, Bd.state]; rfl
  obtain ⟨s₂, o, q1, q2, q3, q4⟩ := H (p, l, e, s, m, args, below, meth, c) ⟨Bd.exec, Bd.bytes, hml0, hZ, hown, Bd.returns, Bd.notSynchronized, (name_of_methodNamed Bd.named Bd.method).1⟩ s₁ [] X0 e0 (Fr.nil n0)
  exact ⟨s₂, o, castTop (hent m) q1, q2, q3, q4⟩
theorem go_step (H : Go E R n0 Q h k n pc' Ls' rest) (f : ∀ T locs target, Sd E R T locs k n → T.heap = h → Sp E (T.setTop (mkF E.2.2.2.2.1 pc' Ls' rest)) target → Sp E (T.setTop (mkF E.2.2.2.2.1 pc Ls st)) target) : Go E R n0 Q h k n pc Ls st := fun T locs X hh N => by
  obtain ⟨s₂, o, q1, q⟩ := H T locs X hh N
  exact ⟨s₂, o, f T locs s₂ X hh q1, q⟩
theorem go_more {k' n' : Nat} (hk : k ≤ k') (hn : n ≤ n') (H : Go E R n0 Q h k' n' pc Ls st) : Go E R n0 Q h k n pc Ls st := fun T locs X hh N => H T locs (X.more hk hn) hh N
theorem go_aloadN (C : Cx E Z own nm bytes mx rt) {i : Fin 4} {v : Value} (hd : decode bytes pc = .ok (.aload_n i, 1)) (hl : Ls[i.val]? = some (.val v)) (hv : v.isRef = true) (hp : pc + 1 = pc') (H : Go E R n0 Q h k n pc' Ls (v :: st)) : Go E R n0 Q h k n pc Ls st := by
  subst hp; exact go_step H fun T locs t X _ q => XS.aloadN X.here C.1 rfl (hb C.2.1 hd) hl hv q
theorem go_aload (C : Cx E Z own nm bytes mx rt) {i : Nat} {v : Value} (hd : decode bytes pc = .ok (.aload i, 2)) (hl : Ls[i]? = some (.val v)) (hv : v.isRef = true) (hp : pc + 2 = pc') (H : Go E R n0 Q h k n pc' Ls (v :: st)) : Go E R n0 Q h k n pc Ls st := by
  subst hp; exact go_step H fun T locs t X _ q => XS.aload X.here C.1 rfl (hb C.2.1 hd) hl hv q
theorem go_iloadN (C : Cx E Z own nm bytes mx rt) {i : Fin 4} {v : Int32} (hd : decode bytes pc = .ok (.iload_n i, 1)) (hl : Ls[i.val]? = some (.val (.int v))) (hp : pc + 1 = pc') (H : Go E R n0 Q h k n pc' Ls (.int v :: st)) : Go E R n0 Q h k n pc Ls st := by
  subst hp; exact go_step H fun T locs t X _ q => XS.iloadN X.here C.1 rfl (hb C.2.1 hd) hl q
theorem go_iload (C : Cx E Z own nm bytes mx rt) {i : Nat} {v : Int32} (hd : decode bytes pc = .ok (.iload i, 2)) (hl : Ls[i]? = some (.val (.int v))) (hp : pc + 2 = pc') (H : Go E R n0 Q h k n pc' Ls (.int v :: st)) : Go E R n0 Q h k n pc Ls st := by
  subst hp; exact go_step H fun T locs t X _ q => XS.iload X.here C.1 rfl (hb C.2.1 hd) hl q
theorem go_lloadN (C : Cx E Z own nm bytes mx rt) {i : Fin 4} {v : Int64} (hd : decode bytes pc = .ok (.lload_n i, 1)) (hl : Ls[i.val]? = some (.val (.long v))) (hp : pc + 1 = pc') (H : Go E R n0 Q h k n pc' Ls (.long v :: st)) : Go E R n0 Q h k n pc Ls st := by
  subst hp; exact go_step H fun T locs t X _ q => XT.lloadN X.here C.1 rfl (hb C.2.1 hd) hl q
theorem go_lload (C : Cx E Z own nm bytes mx rt) {i : Nat} {v : Int64} (hd : decode bytes pc = .ok (.lload i, 2)) (hl : Ls[i]? = some (.val (.long v))) (hp : pc + 2 = pc') (H : Go E R n0 Q h k n pc' Ls (.long v :: st)) : Go E R n0 Q h k n pc Ls st := by
  subst hp; exact go_step H fun T locs t X _ q => XT.lload X.here C.1 rfl (hb C.2.1 hd) hl q
theorem go_iconst (C : Cx E Z own nm bytes mx rt) {i : Int} {z : Int32} (hd : decode bytes pc = .ok (.iconst i, 1)) (hz : Int32.ofInt i = z) (hp : pc + 1 = pc') (H : Go E R n0 Q h k n pc' Ls (.int z :: st)) : Go E R n0 Q h k n pc Ls st := by
  subst hp hz; exact go_step H fun T locs t X _ q => XS.iconst X.here C.1 rfl (hb C.2.1 hd) q
theorem go_lconst (C : Cx E Z own nm bytes mx rt) {i : Fin 2} {z : Int64} (hd : decode bytes pc = .ok (.lconst i, 1)) (hz : Int64.ofNat i = z) (hp : pc + 1 = pc') (H : Go E R n0 Q h k n pc' Ls (.long z :: st)) : Go E R n0 Q h k n pc Ls st := by
  subst hp hz; exact go_step H fun T locs t X _ q => XT.lconst X.here C.1 rfl (hb C.2.1 hd) q
theorem go_bipush (C : Cx E Z own nm bytes mx rt) {i : Int} {z : Int32} (hd : decode bytes pc = .ok (.bipush i, 2)) (hz : (Int8.ofInt i).toInt32 = z) (hp : pc + 2 = pc') (H : Go E R n0 Q h k n pc' Ls (.int z :: st)) : Go E R n0 Q h k n pc Ls st := by
  subst hp hz; exact go_step H fun T locs t X _ q => XS.bipush X.here C.1 rfl (hb C.2.1 hd) q
theorem go_sipush (C : Cx E Z own nm bytes mx rt) {i : Int} {z : Int32} (hd : decode bytes pc = .ok (.sipush i, 3)) (hz : (Int16.ofInt i).toInt32 = z) (hp : pc + 3 = pc') (H : Go E R n0 Q h k n pc' Ls (.int z :: st)) : Go E R n0 Q h k n pc Ls st := by
  subst hp hz; exact go_step H fun T locs t X _ q => XS.sipush X.here C.1 rfl (hb C.2.1 hd) q
theorem go_aconstNull (C : Cx E Z own nm bytes mx rt) (hd : decode bytes pc = .ok (.aconst_null, 1)) (hp : pc + 1 = pc') (H : Go E R n0 Q h k n pc' Ls (.null :: st)) : Go E R n0 Q h k n pc Ls st := by
  subst hp; exact go_step H fun T locs t X _ q => XS.aconstNull X.here C.1 rfl (hb C.2.1 hd) q
theorem go_ldc (C : Cx E Z own nm bytes mx rt) {i : Nat} {z : Int32} (hd : decode bytes pc = .ok (.ldc i, 2)) (w1 : (Cond.constant own i z).before a0 Z = true) (hp : pc + 2 = pc') (H : Go E R n0 Q h k n pc' Ls (.int z :: st)) : Go E R n0 Q h k n pc Ls st := by
  subst hp; exact go_step H fun T locs t X _ q => X.ldcInt C.1 C.2.2.2.2.1 (mvT C.2.2.2.1 w1) (g := mkF _ pc Ls st) rfl (hb C.2.1 hd) t q
theorem go_ldc2L (C : Cx E Z own nm bytes mx rt) {i : Nat} {z : Int64} (hd : decode bytes pc = .ok (.ldc2_w i, 3)) (w1 : (Cond.constantLong own i z).before a0 Z = true) (hp : pc + 3 = pc') (H : Go E R n0 Q h k n pc' Ls (.long z :: st)) : Go E R n0 Q h k n pc Ls st := by
  subst hp; exact go_step H fun T locs t X _ q => X.ldc2Long C.1 C.2.2.2.2.1 (mvT C.2.2.2.1 w1) (g := mkF _ pc Ls st) rfl (hb C.2.1 hd) t q
theorem go_istoreN (C : Cx E Z own nm bytes mx rt) {i : Fin 4} {x : Int32} (hd : decode bytes pc = .ok (.istore_n i, 1)) (hl : storeLocals Ls i.val (.int x) = some Ls') (hp : pc + 1 = pc') (H : Go E R n0 Q h k n pc' Ls' st) : Go E R n0 Q h k n pc Ls (.int x :: st) := by
  subst hp; exact go_step H fun T locs t X _ q => XS.istoreN X.here C.1 rfl (hb C.2.1 hd) rfl hl q
theorem go_istore (C : Cx E Z own nm bytes mx rt) {i : Nat} {x : Int32} (hd : decode bytes pc = .ok (.istore i, 2)) (hl : storeLocals Ls i (.int x) = some Ls') (hp : pc + 2 = pc') (H : Go E R n0 Q h k n pc' Ls' st) : Go E R n0 Q h k n pc Ls (.int x :: st) := by
  subst hp; exact go_step H fun T locs t X _ q => XS.istore X.here C.1 rfl (hb C.2.1 hd) rfl hl q
theorem go_astoreN (C : Cx E Z own nm bytes mx rt) {i : Fin 4} {x : Value} (hd : decode bytes pc = .ok (.astore_n i, 1)) (hv : x.isRef = true) (hl : storeLocals Ls i.val x = some Ls') (hp : pc + 1 = pc') (H : Go E R n0 Q h k n pc' Ls' st) : Go E R n0 Q h k n pc Ls (x :: st) := by
  subst hp; exact go_step H fun T locs t X _ q => XS.astoreN X.here C.1 rfl (hb C.2.1 hd) rfl hv hl q
theorem go_astore (C : Cx E Z own nm bytes mx rt) {i : Nat} {x : Value} (hd : decode bytes pc = .ok (.astore i, 2)) (hv : x.isRef = true) (hl : storeLocals Ls i x = some Ls') (hp : pc + 2 = pc') (H : Go E R n0 Q h k n pc' Ls' st) : Go E R n0 Q h k n pc Ls (x :: st) := by
  subst hp; exact go_step H fun T locs t X _ q => XS.astore X.here C.1 rfl (hb C.2.1 hd) rfl hv hl q
theorem go_lstoreN (C : Cx E Z own nm bytes mx rt) {i : Fin 4} {x : Int64} (hd : decode bytes pc = .ok (.lstore_n i, 1)) (hl : storeLocals Ls i.val (.long x) = some Ls') (hp : pc + 1 = pc') (H : Go E R n0 Q h k n pc' Ls' st) : Go E R n0 Q h k n pc Ls (.long x :: st) := by
  subst hp; exact go_step H fun T locs t X _ q => XT.lstoreN X.here C.1 rfl (hb C.2.1 hd) rfl hl q
theorem go_lstore (C : Cx E Z own nm bytes mx rt) {i : Nat} {x : Int64} (hd : decode bytes pc = .ok (.lstore i, 2)) (hl : storeLocals Ls i (.long x) = some Ls') (hp : pc + 2 = pc') (H : Go E R n0 Q h k n pc' Ls' st) : Go E R n0 Q h k n pc Ls (.long x :: st) := by
  subst hp; exact go_step H fun T locs t X _ q => XT.lstore X.here C.1 rfl (hb C.2.1 hd) rfl hl q
theorem go_iinc (C : Cx E Z own nm bytes mx rt) {i : Nat} {d : Int} {x z : Int32} (hd : decode bytes pc = .ok (.iinc i d, 3)) (hl : Ls[i]? = some (.val (.int x))) (hz : Int32.ofInt d = z) (hl' : storeLocals Ls i (.int (x + z)) = some Ls') (hp : pc + 3 = pc') (H : Go E R n0 Q h k n pc' Ls' st) : Go E R n0 Q h k n pc Ls st := by
  subst hp hz; exact go_step H fun T locs t X _ q => XS.iinc X.here C.1 rfl (hb C.2.1 hd) hl hl' q
theorem go_dup (C : Cx E Z own nm bytes mx rt) {x : Value} (hd : decode bytes pc = .ok (.dup, 1)) (hc : x.category = 1) (hp : pc + 1 = pc') (H : Go E R n0 Q h k n pc' Ls (x :: x :: st)) : Go E R n0 Q h k n pc Ls (x :: st) := by
  subst hp; exact go_step H fun T locs t X _ q => XS.dup X.here C.1 rfl (hb C.2.1 hd) rfl hc q
theorem go_dupX1 (C : Cx E Z own nm bytes mx rt) {x y : Value} (hd : decode bytes pc = .ok (.dup_x1, 1)) (hc : x.category = 1) (hc' : y.category = 1) (hp : pc + 1 = pc') (H : Go E R n0 Q h k n pc' Ls (x :: y :: x :: st)) : Go E R n0 Q h k n pc Ls (x :: y :: st) := by
  subst hp; exact go_step H fun T locs t X _ q => XT.dupX1 X.here C.1 rfl (hb C.2.1 hd) rfl hc hc' q
theorem go_dup2 (C : Cx E Z own nm bytes mx rt) {x y : Value} (hd : decode bytes pc = .ok (.dup2, 1)) (hc : x.category = 1) (hc' : y.category = 1) (hp : pc + 1 = pc') (H : Go E R n0 Q h k n pc' Ls (x :: y :: x :: y :: st)) : Go E R n0 Q h k n pc Ls (x :: y :: st) := by
  subst hp; exact go_step H fun T locs t X _ q => XT.dup2 X.here C.1 rfl (hb C.2.1 hd) rfl hc hc' q
theorem go_pop (C : Cx E Z own nm bytes mx rt) {x : Value} (hd : decode bytes pc = .ok (.pop, 1)) (hc : x.category = 1) (hp : pc + 1 = pc') (H : Go E R n0 Q h k n pc' Ls st) : Go E R n0 Q h k n pc Ls (x :: st) := by
  subst hp; exact go_step H fun T locs t X _ q => XT.pop X.here C.1 rfl (hb C.2.1 hd) rfl hc q
theorem go_iadd (C : Cx E Z own nm bytes mx rt) {x y : Int32} (hd : decode bytes pc = .ok (.iadd, 1)) (hp : pc + 1 = pc') (H : Go E R n0 Q h k n pc' Ls (.int (x + y) :: st)) : Go E R n0 Q h k n pc Ls (.int y :: .int x :: st) := by
  subst hp; exact go_step H fun T locs t X _ q => XS.iadd X.here C.1 rfl (hb C.2.1 hd) rfl q
theorem go_isub (C : Cx E Z own nm bytes mx rt) {x y : Int32} (hd : decode bytes pc = .ok (.isub, 1)) (hp : pc + 1 = pc') (H : Go E R n0 Q h k n pc' Ls (.int (x - y) :: st)) : Go E R n0 Q h k n pc Ls (.int y :: .int x :: st) := by
  subst hp; exact go_step H fun T locs t X _ q => XS.isub X.here C.1 rfl (hb C.2.1 hd) rfl q
theorem go_imul (C : Cx E Z own nm bytes mx rt) {x y : Int32} (hd : decode bytes pc = .ok (.imul, 1)) (hp : pc + 1 = pc') (H : Go E R n0 Q h k n pc' Ls (.int (x * y) :: st)) : Go E R n0 Q h k n pc Ls (.int y :: .int x :: st) := by
  subst hp; exact go_step H fun T locs t X _ q => XS.imul X.here C.1 rfl (hb C.2.1 hd) rfl q
theorem go_irem (C : Cx E Z own nm bytes mx rt) {x y : Int32} (hd : decode bytes pc = .ok (.irem, 1)) (hy : y ≠ 0) (hp : pc + 1 = pc') (H : Go E R n0 Q h k n pc' Ls (.int (x % y) :: st)) : Go E R n0 Q h k n pc Ls (.int y :: .int x :: st) := by
  subst hp; exact go_step H fun T locs t X _ q => iremM X C.1 rfl (hb C.2.1 hd) rfl hy q
theorem go_iand (C : Cx E Z own nm bytes mx rt) {x y : Int32} (hd : decode bytes pc = .ok (.iand, 1)) (hp : pc + 1 = pc') (H : Go E R n0 Q h k n pc' Ls (.int (x &&& y) :: st)) : Go E R n0 Q h k n pc Ls (.int y :: .int x :: st) := by
  subst hp; exact go_step H fun T locs t X _ q => XS.iand X.here C.1 rfl (hb C.2.1 hd) rfl q
theorem go_ior (C : Cx E Z own nm bytes mx rt) {x y : Int32} (hd : decode bytes pc = .ok (.ior, 1)) (hp : pc + 1 = pc') (H : Go E R n0 Q h k n pc' Ls (.int (x ||| y) :: st)) : Go E R n0 Q h k n pc Ls (.int y :: .int x :: st) := by
  subst hp; exact go_step H fun T locs t X _ q => XT.ior X.here C.1 rfl (hb C.2.1 hd) rfl q
theorem go_ishl (C : Cx E Z own nm bytes mx rt) {x y : Int32} (hd : decode bytes pc = .ok (.ishl, 1)) (hp : pc + 1 = pc') (H : Go E R n0 Q h k n pc' Ls (.int (x <<< (y &&& 31)) :: st)) : Go E R n0 Q h k n pc Ls (.int y :: .int x :: st) := by
  subst hp; exact go_step H fun T locs t X _ q => XT.ishl X.here C.1 rfl (hb C.2.1 hd) rfl q
theorem go_ishr (C : Cx E Z own nm bytes mx rt) {x y : Int32} (hd : decode bytes pc = .ok (.ishr, 1)) (hp : pc + 1 = pc') (H : Go E R n0 Q h k n pc' Ls (.int (x >>> (y &&& 31)) :: st)) : Go E R n0 Q h k n pc Ls (.int y :: .int x :: st) := by
  subst hp; exact go_step H fun T locs t X _ q => XT.ishr X.here C.1 rfl (hb C.2.1 hd) rfl q
theorem go_iushr (C : Cx E Z own nm bytes mx rt) {x y : Int32} (hd : decode bytes pc = .ok (.iushr, 1)) (hp : pc + 1 = pc') (H : Go E R n0 Q h k n pc' Ls (.int (XT.ushr x y) :: st)) : Go E R n0 Q h k n pc Ls (.int y :: .int x :: st) := by
  subst hp; exact go_step H fun T locs t X _ q => XT.iushr X.here C.1 rfl (hb C.2.1 hd) rfl q
theorem go_lmul (C : Cx E Z own nm bytes mx rt) {x y : Int64} (hd : decode bytes pc = .ok (.lmul, 1)) (hp : pc + 1 = pc') (H : Go E R n0 Q h k n pc' Ls (.long (x * y) :: st)) : Go E R n0 Q h k n pc Ls (.long y :: .long x :: st) := by
  subst hp; exact go_step H fun T locs t X _ q => XT.lmul X.here C.1 rfl (hb C.2.1 hd) rfl q
theorem go_land (C : Cx E Z own nm bytes mx rt) {x y : Int64} (hd : decode bytes pc = .ok (.land, 1)) (hp : pc + 1 = pc') (H : Go E R n0 Q h k n pc' Ls (.long (x &&& y) :: st)) : Go E R n0 Q h k n pc Ls (.long y :: .long x :: st) := by
  subst hp; exact go_step H fun T locs t X _ q => XT.land X.here C.1 rfl (hb C.2.1 hd) rfl q
theorem go_lushr (C : Cx E Z own nm bytes mx rt) {x : Int64} {y : Int32} (hd : decode bytes pc = .ok (.lushr, 1)) (hp : pc + 1 = pc') (H : Go E R n0 Q h k n pc' Ls (.long (XT.ushrL x y) :: st)) : Go E R n0 Q h k n pc Ls (.int y :: .long x :: st) := by
  subst hp; exact go_step H fun T locs t X _ q => XT.lushr X.here C.1 rfl (hb C.2.1 hd) rfl q
theorem go_ldiv (C : Cx E Z own nm bytes mx rt) {x y : Int64} (hd : decode bytes pc = .ok (.ldiv, 1)) (hy : y ≠ 0) (hp : pc + 1 = pc') (H : Go E R n0 Q h k n pc' Ls (.long (x / y) :: st)) : Go E R n0 Q h k n pc Ls (.long y :: .long x :: st) := by
  subst hp; exact go_step H fun T locs t X _ q => XT.ldiv X.here C.1 rfl (hb C.2.1 hd) rfl hy q
theorem go_lrem (C : Cx E Z own nm bytes mx rt) {x y : Int64} (hd : decode bytes pc = .ok (.lrem, 1)) (hy : y ≠ 0) (hp : pc + 1 = pc') (H : Go E R n0 Q h k n pc' Ls (.long (x % y) :: st)) : Go E R n0 Q h k n pc Ls (.long y :: .long x :: st) := by
  subst hp; rw [← lrem_mod] at H; exact go_step H fun T locs t X _ q => XT.lrem X.here C.1 rfl (hb C.2.1 hd) rfl hy q
theorem go_i2l (C : Cx E Z own nm bytes mx rt) {x : Int32} (hd : decode bytes pc = .ok (.i2l, 1)) (hp : pc + 1 = pc') (H : Go E R n0 Q h k n pc' Ls (.long x.toInt64 :: st)) : Go E R n0 Q h k n pc Ls (.int x :: st) := by
  subst hp; exact go_step H fun T locs t X _ q => XT.i2l X.here C.1 rfl (hb C.2.1 hd) rfl q
theorem go_lcmp (C : Cx E Z own nm bytes mx rt) {x y : Int64} (hd : decode bytes pc = .ok (.lcmp, 1)) (hp : pc + 1 = pc') (H : Go E R n0 Q h k n pc' Ls (.int (XT.cmpL x y) :: st)) : Go E R n0 Q h k n pc Ls (.long y :: .long x :: st) := by
  subst hp; exact go_step H fun T locs t X _ q => XT.lcmp X.here C.1 rfl (hb C.2.1 hd) rfl q
theorem go_goto (C : Cx E Z own nm bytes mx rt) {o : Int} (hd : decode bytes pc = .ok (.goto o, 3)) (ho : 0 ≤ (pc : Int) + o) (hp : ((pc : Int) + o).toNat = pc') (H : Go E R n0 Q h k n pc' Ls st) : Go E R n0 Q h k n pc Ls st :=
  go_step H fun T locs t X _ q => XS.goto X.here C.1 rfl rfl (hb C.2.1 hd) ho hp q
theorem go_ifY (C : Cx E Z own nm bytes mx rt) {cd : ClassFile.Cond} {x : Int32} {o : Int} (hd : decode bytes pc = .ok (.ifCond cd o, 3)) (hc : ifCond.holds cd x = true) (ho : 0 ≤ (pc : Int) + o) (hp : ((pc : Int) + o).toNat = pc') (H : Go E R n0 Q h k n pc' Ls st) : Go E R n0 Q h k n pc Ls (.int x :: st) :=
  go_step H fun T locs t X _ q => XS.ifYes X.here C.1 rfl rfl (hb C.2.1 hd) rfl hc ho hp q
theorem go_ifN (C : Cx E Z own nm bytes mx rt) {cd : ClassFile.Cond} {x : Int32} {o : Int} (hd : decode bytes pc = .ok (.ifCond cd o, 3)) (hc : ifCond.holds cd x = false) (hp : pc + 3 = pc') (H : Go E R n0 Q h k n pc' Ls st) : Go E R n0 Q h k n pc Ls (.int x :: st) := by
  subst hp; exact go_step H fun T locs t X _ q => XS.ifNo X.here C.1 rfl (hb C.2.1 hd) rfl hc q
theorem go_icY (C : Cx E Z own nm bytes mx rt) {cd : ClassFile.Cond} {x y : Int32} {o : Int} (hd : decode bytes pc = .ok (.if_icmp cd o, 3)) (hc : if_icmp.holds cd x y = true) (ho : 0 ≤ (pc : Int) + o) (hp : ((pc : Int) + o).toNat = pc') (H : Go E R n0 Q h k n pc' Ls st) : Go E R n0 Q h k n pc Ls (.int y :: .int x :: st) :=
  go_step H fun T locs t X _ q => XS.icmpYes X.here C.1 rfl rfl (hb C.2.1 hd) rfl hc ho hp q
theorem go_icN (C : Cx E Z own nm bytes mx rt) {cd : ClassFile.Cond} {x y : Int32} {o : Int} (hd : decode bytes pc = .ok (.if_icmp cd o, 3)) (hc : if_icmp.holds cd x y = false) (hp : pc + 3 = pc') (H : Go E R n0 Q h k n pc' Ls st) : Go E R n0 Q h k n pc Ls (.int y :: .int x :: st) := by
  subst hp; exact go_step H fun T locs t X _ q => XS.icmpNo X.here C.1 rfl (hb C.2.1 hd) rfl hc q
/-- what a comparison asks, as a proposition -/
def rel : ClassFile.Cond → Int32 → Int32 → Prop
  | .eq, x, y => x.toInt = y.toInt
  | .ne, x, y => ¬ x.toInt = y.toInt
  | .lt, x, y => x.toInt < y.toInt
  | .ge, x, y => y.toInt ≤ x.toInt
  | .gt, x, y => y.toInt < x.toInt
  | .le, x, y => x.toInt ≤ y.toInt
theorem rel_holds (cd : ClassFile.Cond) (x y : Int32) : if_icmp.holds cd x y = true ↔ rel cd x y := by
  cases cd <;> simp [if_icmp.holds, rel, Int32.lt_iff_toInt_lt, Int32.le_iff_toInt_le, Int32.toInt_inj]
theorem rel_holds0 (cd : ClassFile.Cond) (x : Int32) : ifCond.holds cd x = true ↔ rel cd x 0 := by rw [if0]; exact rel_holds cd x 0
/-- both ways of a comparison -/
theorem go_ic (C : Cx E Z own nm bytes mx rt) {cd : ClassFile.Cond} {x y : Int32} {o : Int} {pcY pcN : Nat} (hd : decode bytes pc = .ok (.if_icmp cd o, 3)) (ho : 0 ≤ (pc : Int) + o) (hpY : ((pc : Int) + o).toNat = pcY) (hpN : pc + 3 = pcN)
    (HY : rel cd x y → Go E R n0 Q h k n pcY Ls st) (HN : ¬ rel cd x y → Go E R n0 Q h k n pcN Ls st) : Go E R n0 Q h k n pc Ls (.int y :: .int x :: st) := by
  cases q : if_icmp.holds cd x y with
  | true => exact go_icY C hd q ho hpY (HY ((rel_holds cd x y).mp q))
  | false => exact go_icN C hd q hpN (HN fun r => by rw [(rel_holds cd x y).mpr r] at q; cases q)
theorem go_if (C : Cx E Z own nm bytes mx rt) {cd : ClassFile.Cond} {x : Int32} {o : Int} {pcY pcN : Nat} (hd : decode bytes pc = .ok (.ifCond cd o, 3)) (ho : 0 ≤ (pc : Int) + o) (hpY : ((pc : Int) + o).toNat = pcY) (hpN : pc + 3 = pcN)
    (HY : rel cd x 0 → Go E R n0 Q h k n pcY Ls st) (HN : ¬ rel cd x 0 → Go E R n0 Q h k n pcN Ls st) : Go E R n0 Q h k n pc Ls (.int x :: st) := by
  cases q : ifCond.holds cd x with
  | true => exact go_ifY C hd q ho hpY (HY ((rel_holds0 cd x).mp q))
  | false => exact go_ifN C hd q hpN (HN fun r => by rw [(rel_holds0 cd x).mpr r] at q; cases q)
/-! the ends -/
theorem go_end {v : Option Value} (hr : ∀ T locs, Sd E R T locs k n → ∀ fs, (∀ (f : JFrame) (acts : List Action), f.method = E.2.2.2.2.1 → f.locked = none → f.entered = [] → (doReturn E.2.2.1 (T.setTop f) acts v).1 = T.setFrames fs) → Sp E (T.setTop (mkF E.2.2.2.2.1 pc Ls st)) (T.setFrames fs))
    (hlk : E.2.2.2.2.2.2.2.1.locks = false) (hv : E.2.2.2.2.2.2.2.1.sig.returnType = none → v = none) (hk : k ≤ R.cells) (hn : n ≤ R.slots) (hQ : Q v h) : Go E R n0 Q h k n pc Ls st := fun T locs X hh N => by
  obtain ⟨fs, q1, q2, q3, q4, q5⟩ := X.leave (v := v) hv hlk
  exact ⟨_, _, hr T locs X fs q1, q2, q3, _, _, rfl, ⟨by show Q v T.heap; rw [hh]; exact hQ, N⟩, ⟨_, rfl⟩, q4, q5.mono hk hn⟩
theorem go_retI (C : Cx E Z own nm bytes mx (some .int)) {z : Int32} (hd : decode bytes pc = .ok (.ireturn, 1)) (hk : k ≤ R.cells) (hn : n ≤ R.slots) (hQ : Q (some (.int z)) h) : Go E R n0 Q h k n pc Ls (.int z :: st) :=
  go_end (fun T locs X fs hl => retOut X C.1 (w := .int z) (t := .int) C.2.2.2.2.2.1 rfl (Or.inl ⟨rfl, Or.inl rfl, _, rfl⟩) (hb C.2.1 hd) hl) C.2.2.2.2.2.2.1 (fun q => by rw [C.2.2.2.2.2.1] at q; cases q) hk hn hQ
theorem go_retZ (C : Cx E Z own nm bytes mx (some .boolean)) {z : Int32} (hd : decode bytes pc = .ok (.ireturn, 1)) (hz : z = 0 ∨ z = 1) (hk : k ≤ R.cells) (hn : n ≤ R.slots) (hQ : Q (some (.int z)) h) : Go E R n0 Q h k n pc Ls (.int z :: st) :=
  go_end (fun T locs X fs hl => retOut X C.1 (w := .int z) (t := .boolean) C.2.2.2.2.2.1 (by rcases hz with rfl | rfl <;> rfl) (Or.inl ⟨rfl, Or.inr (Or.inl rfl), _, rfl⟩) (hb C.2.1 hd) hl) C.2.2.2.2.2.2.1 (fun q => by rw [C.2.2.2.2.2.1] at q; cases q) hk hn hQ
theorem go_retL (C : Cx E Z own nm bytes mx (some .long)) {z : Int64} (hd : decode bytes pc = .ok (.lreturn, 1)) (hk : k ≤ R.cells) (hn : n ≤ R.slots) (hQ : Q (some (.long z)) h) : Go E R n0 Q h k n pc Ls (.long z :: st) :=
  go_end (fun T locs X fs hl => retOut X C.1 (w := .long z) (t := .long) C.2.2.2.2.2.1 rfl (Or.inr (Or.inl ⟨rfl, rfl, _, rfl⟩)) (hb C.2.1 hd) hl) C.2.2.2.2.2.2.1 (fun q => by rw [C.2.2.2.2.2.1] at q; cases q) hk hn hQ
theorem go_retA {t : FieldType} (C : Cx E Z own nm bytes mx (some t)) {w : Value} (hd : decode bytes pc = .ok (.areturn, 1)) (ht : t.isReference = true) (hw : w.isRef = true) (hnw : narrow t w = w) (hk : k ≤ R.cells) (hn : n ≤ R.slots) (hQ : Q (some w) h) : Go E R n0 Q h k n pc Ls (w :: st) :=
  go_end (fun T locs X fs hl => retOut X C.1 (w := w) (t := t) C.2.2.2.2.2.1 hnw (Or.inr (Or.inr (Or.inr (Or.inr ⟨rfl, ht, hw⟩)))) (hb C.2.1 hd) hl) C.2.2.2.2.2.2.1 (fun q => by rw [C.2.2.2.2.2.1] at q; cases q) hk hn hQ
theorem go_retV (C : Cx E Z own nm bytes mx none) (hd : decode bytes pc = .ok (.return_, 1)) (hk : k ≤ R.cells) (hn : n ≤ R.slots) (hQ : Q none h) : Go E R n0 Q h k n pc Ls [] :=
  go_end (fun T locs X fs hl => X.returnOut C.1 C.2.2.2.2.2.1 (hb C.2.1 hd) hl) C.2.2.2.2.2.2.1 (fun _ => rfl) hk hn hQ
/-! calls -/
theorem go_callS (C : Cx E Z own nm bytes mx rt) {i : Nat} {y : MethodName} {by' : ByteArray} {mx' : Nat} {rt' : Option FieldType} {rm : Room} {Qc : Option Value → Heap → Prop} {argsL : List Value}
    (w1 : (Cond.methodLink own i y).before a0 Z = true) (w2 : (Cond.static y).before a0 Z = true) (w3 : (Cond.initialized y.cls).before a0 Z = true) (w4 : (Cond.code y by' mx' rt').before a0 Z = true)
    (hM : Met Z y by' mx' rt' rm argsL.toArray h n0 Qc) (hd : decode bytes pc = .ok (.invokestatic i, 3)) (hsz : Ls.size = mx) (hst : st = argsL.reverse ++ rest)
    (hlen : ∀ sig, parseMethodDescriptor y.desc = some sig → argsL.length = sig.parameters.length) (hy : y.cls ≠ "java/lang/invoke/MethodHandle" ∧ y.cls ≠ "java/lang/invoke/VarHandle")
    (hfr : rm.frames + 1 ≤ R.frames) (W : Nat) (hW : (rest.map fun v => v.category).sum = W) (hlo : W + (mx' + 11) + rm.locals ≤ R.locals) {k' n' : Nat} (hk' : k + rm.cells = k') (hn' : n + rm.slots = n') (hc : k' ≤ R.cells) (hs : n' ≤ R.slots) (hp : pc + 3 = pc')
    (H : ∀ v h', Qc v h' → Go E R n0 Q h' k' n' pc' Ls (v.toList ++ rest)) : Go E R n0 Q h k n pc Ls st := fun T locs X hh N => by
  subst hp hW hk' hn'
  obtain ⟨v, vm, ⟨T', L', k', n'⟩, -, X', ⟨Lc, hQc, l1, y1, z1⟩, stp⟩ := Jvm.LawKit.callS X C.1 (y := y) C.2.2.2.2.1 (mvT C.2.2.2.1 w1) (mvT C.2.2.2.1 w2) (mvT C.2.2.2.1 w3) (mvT C.2.2.2.1 w4) hy
    (backOf (Q := fun v h L => Qc v h ∧ Fr n0 L) (W := (rest.map fun v => v.category).sum) (hM E.2.1 []) C.2.2.2.1 w4 w3 hfr hlo) (g := mkF E.2.2.2.2.1 pc Ls st) rfl (hsz.trans C.2.2.1.symm) (argsL := argsL) (rest := rest) hlen hst (by show 2 * 0 + _ ≤ _; omega) (hb C.2.1 hd) (fun _ _ => ⟨rfl, hh, hc, hs⟩)
  dsimp only [Pt.U, Pt.locs, Pt.cells, Pt.slots] at X' l1 y1 z1 stp hQc
  subst l1 y1 z1
  obtain ⟨s₂, o, q1, q⟩ := H v _ hQc.1 T' _ X' rfl (Fr.app N hQc.2)
  exact ⟨s₂, o, stp _ q1, q⟩
theorem go_callC (C : Cx E Z own nm bytes mx rt) {i : Nat} {y : MethodName} {by' : ByteArray} {mx' : Nat} {rm : Room} {Qc : Option Value → Heap → Prop} {argsL : List Value} {a : Nat}
    (w1 : (Cond.methodLink own i y).before a0 Z = true) (w2 : (Cond.instanceMethod y).before a0 Z = true) (w3 : (Cond.initialized y.cls).before a0 Z = true) (w4 : (Cond.code y by' mx' none).before a0 Z = true) (hni : y.name = "<init>")
    (hM : Met Z y by' mx' none rm (.ref a :: argsL).toArray h n0 Qc) (hd : decode bytes pc = .ok (.invokespecial i, 3)) (hsz : Ls.size = mx) (hst : st = argsL.reverse ++ .ref a :: rest)
    (hlen : ∀ sig, parseMethodDescriptor y.desc = some sig → argsL.length = sig.parameters.length) (hy : y.cls ≠ "java/lang/invoke/MethodHandle" ∧ y.cls ≠ "java/lang/invoke/VarHandle")
    (hfr : rm.frames + 1 ≤ R.frames) (W : Nat) (hW : (rest.map fun v => v.category).sum = W) (hlo : W + (mx' + 11) + rm.locals ≤ R.locals) {k' n' : Nat} (hk' : k + rm.cells = k') (hn' : n + rm.slots = n') (hc : k' ≤ R.cells) (hs : n' ≤ R.slots) (hp : pc + 3 = pc')
    (H : ∀ v h', Qc v h' → Go E R n0 Q h' k' n' pc' Ls (v.toList ++ rest)) : Go E R n0 Q h k n pc Ls st := fun T locs X hh N => by
  subst hp hW hk' hn'
  obtain ⟨v, vm, ⟨T', L', k', n'⟩, -, X', ⟨Lc, hQc, l1, y1, z1⟩, stp⟩ := X.specialBack C.1 (y := y) hni C.2.2.2.2.1 (mvT C.2.2.2.1 w1) (mvT C.2.2.2.1 w2) (mvT C.2.2.2.1 w4) hy
    (backOf (Q := fun v h L => Qc v h ∧ Fr n0 L) (W := (rest.map fun v => v.category).sum) (hM E.2.1 []) C.2.2.2.1 w4 w3 hfr hlo) (g := mkF E.2.2.2.2.1 pc Ls st) rfl (hsz.trans C.2.2.1.symm) (Steps.refl _) (a := a) (argsL := argsL) (rest := rest) hlen hst (by show 2 * 0 + _ ≤ _; omega) (hb C.2.1 hd) (fun _ _ => ⟨rfl, hh, hc, hs⟩)
  dsimp only [Pt.U, Pt.locs, Pt.cells, Pt.slots] at X' l1 y1 z1 stp hQc
  subst l1 y1 z1
  obtain ⟨s₂, o, q1, q⟩ := H v _ hQc.1 T' _ X' rfl (Fr.app N hQc.2)
  exact ⟨s₂, o, stp.trans q1, q⟩
theorem go_callV (C : Cx E Z own nm bytes mx rt) {i : Nat} {y : MethodName} {by' : ByteArray} {mx' : Nat} {rt' : Option FieldType} {rm : Room} {Qc : Option Value → Heap → Prop} {argsL : List Value} {a : Nat} {K : String}
    (w1 : (Cond.methodLink own i y).before a0 Z = true) (w2 : (Cond.declares y).before a0 Z = true) (w3 : (Cond.selects K y y).before a0 Z = true) (w4 : (Cond.instanceMethod y).before a0 Z = true) (w5 : (Cond.initialized y.cls).before a0 Z = true) (w6 : (Cond.code y by' mx' rt').before a0 Z = true)
    (hE : Exa Z h a K) (hM : Met Z y by' mx' rt' rm (.ref a :: argsL).toArray h n0 Qc) (hd : decode bytes pc = .ok (.invokevirtual i, 3)) (hsz : Ls.size = mx) (hst : st = argsL.reverse ++ .ref a :: rest)
    (hlen : ∀ sig, parseMethodDescriptor y.desc = some sig → argsL.length = sig.parameters.length) (hy : y.cls ≠ "java/lang/invoke/MethodHandle" ∧ y.cls ≠ "java/lang/invoke/VarHandle")
    (hfr : rm.frames + 1 ≤ R.frames) (W : Nat) (hW : (rest.map fun v => v.category).sum = W) (hlo : W + (mx' + 11) + rm.locals ≤ R.locals) {k' n' : Nat} (hk' : k + rm.cells = k') (hn' : n + rm.slots = n') (hc : k' ≤ R.cells) (hs : n' ≤ R.slots) (hp : pc + 3 = pc')
    (H : ∀ v h', Qc v h' → Go E R n0 Q h' k' n' pc' Ls (v.toList ++ rest)) : Go E R n0 Q h k n pc Ls st := fun T locs X hh N => by
  subst hp hW hk' hn'
  obtain ⟨cq, kq, qa, qb, qc⟩ := isOf C.2.2.2.1 hh hE
  obtain ⟨v, vm, ⟨T', L', k', n'⟩, -, X', ⟨Lc, hQc, l1, y1, z1⟩, stp⟩ := X.virtualBack C.1 (y := y) (z := y) C.2.2.2.2.1 (mvT C.2.2.2.1 w1) (mvT C.2.2.2.1 w2) (notFace_of_selects (args := #[]) (mvT C.2.2.2.1 w3)) (mvT C.2.2.2.1 w3) (mvT C.2.2.2.1 w4) hy
    (backOf (Q := fun v h L => Qc v h ∧ Fr n0 L) (W := (rest.map fun v => v.category).sum) (hM E.2.1 []) C.2.2.2.1 w6 w5 hfr hlo) qa qc (g := mkF E.2.2.2.2.1 pc Ls st) rfl (hsz.trans C.2.2.1.symm) (Steps.refl _) (argsL := argsL) (rest := rest) hlen hst (by show 2 * 0 + _ ≤ _; omega) (hb C.2.1 hd) (fun _ _ => ⟨rfl, hh, hc, hs⟩)
  dsimp only [Pt.U, Pt.locs, Pt.cells, Pt.slots] at X' l1 y1 z1 stp hQc
  subst l1 y1 z1
  obtain ⟨s₂, o, q1, q⟩ := H v _ hQc.1 T' _ X' rfl (Fr.app N hQc.2)
  exact ⟨s₂, o, stp.trans q1, q⟩
/-! objects and fields -/
theorem go_newO (C : Cx E Z own nm bytes mx rt) {i cnt : Nat} {K : String} (w1 : (Cond.classLink own i K).before a0 Z = true) (w2 : (Cond.instantiable K cnt).before a0 Z = true) (w3 : (Cond.initialized K).before a0 Z = true) (hd : decode bytes pc = .ok (.new i, 3)) {k' n' : Nat} (hk' : k + 1 = k') (hn' : n + cnt = n') (hc : k' ≤ R.cells) (hs : n' ≤ R.slots) (hp : pc + 3 = pc')
    (H : ∀ h', Ext h h' → Exa Z h' h.size K → (∀ {O f d : String} {ty : FieldType}, Laid Z a0 K O f d → parseFieldDescriptor d = some ty → Fld Z h' h.size O f d (defaultValue ty)) → Go E R n0 Q h' k' n' pc' Ls (.ref h.size :: st)) : Go E R n0 Q h k n pc Ls st := fun T locs X hh N => by
  subst hp hk' hn'
  obtain ⟨T', h', X', e', e2, A2, D2, -, stp⟩ := newO X C.1 C.2.2.2.1 C.2.2.2.2.1 w1 w2 w3 hh (g := mkF E.2.2.2.2.1 pc Ls st) rfl (hb C.2.1 hd) hc hs
  obtain ⟨s₂, o, q1, q⟩ := H h' e2 A2 D2 T' _ X' e' N
  exact ⟨s₂, o, stp _ q1, q⟩
theorem go_getF (C : Cx E Z own nm bytes mx rt) {i : Nat} {a : Nat} {O f d : String} {v : Value} (w1 : (Cond.fieldLink own i O f d).before a0 Z = true) (F : Fld Z h a O f d v) (hd : decode bytes pc = .ok (.getfield i, 3)) (hp : pc + 3 = pc') (H : Go E R n0 Q h k n pc' Ls (v :: st)) : Go E R n0 Q h k n pc Ls (.ref a :: st) := fun T locs X hh N => by
  subst hp
  obtain ⟨T', X', e', stp⟩ := getF X C.1 C.2.2.2.1 C.2.2.2.2.1 (host := "") (Or.inl w1) Via.refl hh F (g := mkF E.2.2.2.2.1 pc Ls (.ref a :: st)) rfl rfl (hb C.2.1 hd)
  obtain ⟨s₂, o, q1, q⟩ := H T' _ X' e' N
  exact ⟨s₂, o, stp _ q1, q⟩
theorem go_putF (C : Cx E Z own nm bytes mx rt) {i kk : Nat} {a : Nat} {O f d K : String} {v old : Value} {ty : FieldType} (w1 : (Cond.fieldLink own i O f d).before a0 Z = true) (F : Fld Z h a O f d old) (A : Exa Z h a K) (L : (Cond.lays K O f d).before a0 Z = true ∨ ((Cond.laysFinal K O f d).before a0 Z = true ∧ own = O ∧ nm = "<init>")) (wi : (Cond.instantiable K kk).before a0 Z = true)
    (hty : parseFieldDescriptor d = some ty) (hnw : narrow ty v = v) (hf : fits ty v = true) (ge : n0 ≤ a) (hd : decode bytes pc = .ok (.putfield i, 3)) (hp : pc + 3 = pc') (H : ∀ h', Wr h h' a (Jvm.RoadKit.slotOf Z O f d) v → Go E R n0 Q h' k n pc' Ls st) : Go E R n0 Q h k n pc Ls (v :: .ref a :: st) := fun T locs X hh N => by
  subst hp
  obtain ⟨T', h', X', e', W, stp⟩ := putF X C.1 C.2.2.2.1 C.2.2.2.2.1 (host := "") (Or.inl w1) Via.refl hh F A (L.imp id fun q => ⟨q.1, q.2.1, C.2.2.2.2.2.2.2.trans q.2.2⟩) wi hty hnw hf (g := mkF E.2.2.2.2.1 pc Ls (v :: .ref a :: st)) rfl rfl (hb C.2.1 hd)
  obtain ⟨s₂, o, q1, q⟩ := H h' W T' _ X' e' (Fr.snoc X' N ge)
  exact ⟨s₂, o, stp _ q1, q⟩
theorem go_getS (C : Cx E Z own nm bytes mx rt) {i : Nat} {O f d : String} {v : Value} (w1 : (Cond.fieldLink own i O f d).before a0 Z = true) (F : Sta Z h O f d v) (hd : decode bytes pc = .ok (.getstatic i, 3)) (hp : pc + 3 = pc') (H : Go E R n0 Q h k n pc' Ls (v :: st)) : Go E R n0 Q h k n pc Ls st := fun T locs X hh N => by
  subst hp
  obtain ⟨T', X', e', stp⟩ := getS X C.1 C.2.2.2.1 C.2.2.2.2.1 (host := "") w1 Via.refl hh F (g := mkF E.2.2.2.2.1 pc Ls st) rfl (hb C.2.1 hd)
  obtain ⟨s₂, o, q1, q⟩ := H T' _ X' e' N
  exact ⟨s₂, o, stp _ q1, q⟩
theorem sta_keep {h' : Heap} {O f d : String} {v : Value} {ws : List Nat} (F : Sta Z h O f d v) (K : Keep h h' ws) (q : ∀ x ∈ ws, ∃ D, Exa Z h x D) : Sta Z h' O f d v := by
  obtain ⟨cf, i, k, f, st, cell, h1, h2, h3, h4, h5, h6, h7⟩ := F
  refine ⟨cf, i, k, f, st, cell, h1, h2, h3, h4, K.2.1 st cell h5 (fun hm => ?_), h6, h7⟩
  obtain ⟨D, c, k', e1, -, -, e4, -⟩ := q st hm
  cases e1.symm.trans h5
  rw [h6] at e4; cases e4
/-! arrays -/
theorem go_newP (C : Cx E Z own nm bytes mx rt) {aty : ArrayType} {z : Int32} {cap : Nat} (w1 : (Cond.arrayClass (newarray.typeOf aty)).before a0 Z = true) (hd : decode bytes pc = .ok (.newarray aty, 2)) (hn : ¬ z < 0) (hcap : z.toNatClampNeg ≤ cap) (hb8 : cap * 8 ≤ 536870912) {k' n' : Nat} (hk' : k + 1 = k') (hn' : n + cap = n') (hc : k' ≤ R.cells) (hs : n' ≤ R.slots) (hp : pc + 2 = pc')
    (H : ∀ h' cA, Ext h h' → Arr Z h' h.size (newA cA (newarray.typeOf aty) z) (newarray.typeOf aty) → Go E R n0 Q h' k' n' pc' Ls (.ref h.size :: st)) : Go E R n0 Q h k n pc Ls (.int z :: st) := fun T locs X hh N => by
  subst hp hk' hn'
  obtain ⟨T', h', cA, X', e', e2, A2, stp⟩ := newP X C.1 C.2.2.2.1 w1 hh (g := mkF E.2.2.2.2.1 pc Ls (.int z :: st)) rfl (hb C.2.1 hd) rfl hn hcap hb8 hc hs
  obtain ⟨s₂, o, q1, q⟩ := H h' cA e2 A2 T' _ X' e' N
  exact ⟨s₂, o, stp _ q1, q⟩
/-- an array of ints (or bytes, or booleans) by its list -/
def Ai (Z : State) (h : Heap) (a : Nat) (ty : FieldType) (xs : List Int32) : Prop := ∃ c : Cell, Arr Z h a c ty ∧ c.slots = (xs.map Value.int).toArray ∧ xs.length < 2 ^ 31
theorem Ai.lt {a : Nat} {ty : FieldType} {xs : List Int32} (F : Ai Z h a ty xs) : a < h.size := by obtain ⟨c, A, -⟩ := F; exact A.lt
theorem Ai.ext {h' : Heap} {a : Nat} {ty : FieldType} {xs : List Int32} (F : Ai Z h a ty xs) (e : Ext h h') : Ai Z h' a ty xs := by obtain ⟨c, A, r⟩ := F; exact ⟨c, A.ext e, r⟩
theorem Ai.other {h' : Heap} {a b : Nat} {sl : Nat} {v : Value} {ty : FieldType} {xs : List Int32} (F : Ai Z h b ty xs) (W : Wr h h' a sl v) (q : b ≠ a) : Ai Z h' b ty xs := by obtain ⟨c, A, r⟩ := F; exact ⟨c, A.other W q, r⟩
theorem Ai.keep {h' : Heap} {a : Nat} {ws : List Nat} {ty : FieldType} {xs : List Int32} (F : Ai Z h a ty xs) (K : Keep h h' ws) (q : a ∉ ws) : Ai Z h' a ty xs := by obtain ⟨c, A, r⟩ := F; exact ⟨c, ⟨K.2.1 a c A.1 q, A.2⟩, r⟩
theorem Ai.set {h' : Heap} {a : Nat} {i : Nat} {v : Int32} {ty : FieldType} {xs : List Int32} (F : Ai Z h a ty xs) (W : Wr h h' a i (.int v)) : Ai Z h' a ty (xs.set i v) := by
  obtain ⟨c, A, r, q⟩ := F
  refine ⟨_, A.same W, ?_, by simpa using q⟩
  show c.slots.setIfInBounds i (.int v) = _
  rw [r]; apply Array.toList_inj.mp; simp [List.map_set]
theorem Ai.new {cA : ClassId} {a : Nat} {z : Int32} {ty : FieldType} (A : Arr Z h a (newA cA ty z) ty) (hz : ¬ z < 0) (hd : defaultValue ty = .int 0) : Ai Z h a ty (List.replicate z.toNatClampNeg 0) := by
  refine ⟨_, A, ?_, by simpa using (back32 hz).2⟩
  show Array.replicate z.toNatClampNeg (defaultValue ty) = _
  rw [hd]; apply Array.toList_inj.mp; simp
theorem Ai.bound {c : Cell} {xs : List Int32} {j : Int32} (e : c.slots = (xs.map Value.int).toArray) (h0 : 0 ≤ j.toInt) (h1 : j.toInt < xs.length) : ¬ (j < 0 ∨ c.slots.size ≤ j.toNatClampNeg) := by
  rw [e]; simp only [List.size_toArray, List.length_map, Int32.lt_iff_toInt_lt, Int32.toNatClampNeg, Int32.reduceToInt]; omega
theorem go_alen (C : Cx E Z own nm bytes mx rt) {a : Nat} {ty : FieldType} {xs : List Int32} {z : Int32} (F : Ai Z h a ty xs) (hd : decode bytes pc = .ok (.arraylength, 1)) (hz : xs.length.toInt32 = z) (hp : pc + 1 = pc') (H : Go E R n0 Q h k n pc' Ls (.int z :: st)) : Go E R n0 Q h k n pc Ls (.ref a :: st) := by
  subst hp hz
  obtain ⟨c, A, r, q⟩ := F
  refine go_step H fun T locs t X hh s2 => X.arraylength C.1 (by rw [hh]; exact A.1) (State.isArrayOf_alike C.2.2.2.1.alike A.2.1) (g := mkF E.2.2.2.2.1 pc Ls (.ref a :: st)) rfl rfl (hb C.2.1 hd) t ?_
  rw [r]; simpa using s2
theorem ai_get {xs : List Int32} {j v : Int32} {i : Nat} (hi : j.toInt = (i : Int)) (hv : xs[i]? = some v) : ((xs.map Value.int).toArray)[j.toNatClampNeg]? = some (.int v) := by
  have e : j.toNatClampNeg = i := by show j.toInt.toNat = i; omega
  rw [e]; simp [hv]
theorem go_iaload (C : Cx E Z own nm bytes mx rt) {a : Nat} {xs : List Int32} {j v : Int32} (F : Ai Z h a .int xs) {i : Nat} (hi : j.toInt = (i : Int)) (hv : xs[i]? = some v) (hd : decode bytes pc = .ok (.iaload, 1)) (hp : pc + 1 = pc') (H : Go E R n0 Q h k n pc' Ls (.int v :: st)) : Go E R n0 Q h k n pc Ls (.int j :: .ref a :: st) := by
  subst hp
  obtain ⟨c, A, r, q⟩ := F
  have hb1 := Ai.bound (j := j) r (by omega) (by have := (List.getElem?_eq_some_iff.mp hv).1; omega)
  exact go_step H fun T locs t X hh s2 => X.iaload C.1 (by rw [hh]; exact A.1) (State.isArrayOf_alike C.2.2.2.1.alike A.2.1) A.2.2 hb1 (by rw [r]; exact ai_get hi hv) (g := mkF E.2.2.2.2.1 pc Ls (.int j :: .ref a :: st)) rfl rfl (hb C.2.1 hd) t s2
theorem go_baloadB (C : Cx E Z own nm bytes mx rt) {a : Nat} {xs : List Int32} {j v : Int32} (F : Ai Z h a .byte xs) {i : Nat} (hi : j.toInt = (i : Int)) (hv : xs[i]? = some v) (hd : decode bytes pc = .ok (.baload, 1)) (hp : pc + 1 = pc') (H : Go E R n0 Q h k n pc' Ls (.int v :: st)) : Go E R n0 Q h k n pc Ls (.int j :: .ref a :: st) := by
  subst hp
  obtain ⟨c, A, r, q⟩ := F
  have hb1 := Ai.bound (j := j) r (by omega) (by have := (List.getElem?_eq_some_iff.mp hv).1; omega)
  exact go_step H fun T locs t X hh s2 => X.baloadBytes C.1 (by rw [hh]; exact A.1) (State.isArrayOf_alike C.2.2.2.1.alike A.2.1) A.2.2 hb1 (by rw [r]; exact ai_get hi hv) (g := mkF E.2.2.2.2.1 pc Ls (.int j :: .ref a :: st)) rfl rfl (hb C.2.1 hd) t s2
theorem go_baloadZ (C : Cx E Z own nm bytes mx rt) {a : Nat} {xs : List Int32} {j v : Int32} (F : Ai Z h a .boolean xs) {i : Nat} (hi : j.toInt = (i : Int)) (hv : xs[i]? = some v) (hd : decode bytes pc = .ok (.baload, 1)) (hp : pc + 1 = pc') (H : Go E R n0 Q h k n pc' Ls (.int v :: st)) : Go E R n0 Q h k n pc Ls (.int j :: .ref a :: st) := by
  subst hp
  obtain ⟨c, A, r, q⟩ := F
  have hb1 := Ai.bound (j := j) r (by omega) (by have := (List.getElem?_eq_some_iff.mp hv).1; omega)
  exact go_step H fun T locs t X hh s2 => X.baloadBooleans C.1 (by rw [hh]; exact A.1) (State.isArrayOf_alike C.2.2.2.1.alike A.2.1) A.2.2 hb1 (by rw [r]; exact ai_get hi hv) (g := mkF E.2.2.2.2.1 pc Ls (.int j :: .ref a :: st)) rfl rfl (hb C.2.1 hd) t s2
theorem go_iastore (C : Cx E Z own nm bytes mx rt) {a : Nat} {xs : List Int32} {j v : Int32} (F : Ai Z h a .int xs) {i : Nat} {xs' : List Int32} (hi : j.toInt = (i : Int)) (h1 : i < xs.length) (hxs : xs.set i v = xs') (ge : n0 ≤ a) (hd : decode bytes pc = .ok (.iastore, 1)) (hp : pc + 1 = pc')
    (H : ∀ h', Wr h h' a i (.int v) → Ai Z h' a .int xs' → Go E R n0 Q h' k n pc' Ls st) : Go E R n0 Q h k n pc Ls (.int v :: .int j :: .ref a :: st) := fun T locs X hh N => by
  subst hp
  have F' := F
  obtain ⟨c, A, r, q⟩ := F
  obtain ⟨T', h', X', e', W, stp⟩ := stI X C.1 C.2.2.2.1 hh A (Ai.bound r (by omega) (by omega)) (g := mkF E.2.2.2.2.1 pc Ls (.int v :: .int j :: .ref a :: st)) rfl rfl (hb C.2.1 hd)
  have ei : j.toNatClampNeg = i := by show j.toInt.toNat = i; omega
  rw [ei] at W
  obtain ⟨s₂, o, q1, q⟩ := H h' W (hxs ▸ F'.set W) T' _ X' e' (Fr.snoc X' N ge)
  exact ⟨s₂, o, stp _ q1, q⟩
theorem go_bastoreZ (C : Cx E Z own nm bytes mx rt) {a : Nat} {xs : List Int32} {j v : Int32} (F : Ai Z h a .boolean xs) {i : Nat} {xs' : List Int32} (hi : j.toInt = (i : Int)) (h1 : i < xs.length) (hxs : xs.set i v = xs') (hv : v = 0 ∨ v = 1) (ge : n0 ≤ a) (hd : decode bytes pc = .ok (.bastore, 1)) (hp : pc + 1 = pc')
    (H : ∀ h', Wr h h' a i (.int v) → Ai Z h' a .boolean xs' → Go E R n0 Q h' k n pc' Ls st) : Go E R n0 Q h k n pc Ls (.int v :: .int j :: .ref a :: st) := fun T locs X hh N => by
  subst hp
  have F' := F
  have nv : nar .boolean v = v := by rcases hv with rfl | rfl <;> rfl
  obtain ⟨c, A, r, q⟩ := F
  obtain ⟨T', h', X', e', W, stp⟩ := stZ X C.1 C.2.2.2.1 hh A (Ai.bound r (by omega) (by omega)) (g := mkF E.2.2.2.2.1 pc Ls (.int v :: .int j :: .ref a :: st)) rfl rfl (hb C.2.1 hd)
  have ei : j.toNatClampNeg = i := by show j.toInt.toNat = i; omega
  rw [ei] at W
  rw [nv] at W
  obtain ⟨s₂, o, q1, q⟩ := H h' W (hxs ▸ F'.set W) T' _ X' e' (Fr.snoc X' N ge)
  exact ⟨s₂, o, stp _ q1, q⟩
theorem go_bastoreB (C : Cx E Z own nm bytes mx rt) {a : Nat} {xs : List Int32} {j v : Int32} (F : Ai Z h a .byte xs) {i : Nat} {xs' : List Int32} (hi : j.toInt = (i : Int)) (h1 : i < xs.length) (hxs : xs.set i v = xs') (hv : nar .byte v = v) (ge : n0 ≤ a) (hd : decode bytes pc = .ok (.bastore, 1)) (hp : pc + 1 = pc')
    (H : ∀ h', Wr h h' a i (.int v) → Ai Z h' a .byte xs' → Go E R n0 Q h' k n pc' Ls st) : Go E R n0 Q h k n pc Ls (.int v :: .int j :: .ref a :: st) := fun T locs X hh N => by
  subst hp
  have F' := F
  obtain ⟨c, A, r, q⟩ := F
  obtain ⟨T', h', X', e', W, stp⟩ := stB X C.1 C.2.2.2.1 hh A (Ai.bound r (by omega) (by omega)) (g := mkF E.2.2.2.2.1 pc Ls (.int v :: .int j :: .ref a :: st)) rfl rfl (hb C.2.1 hd)
  have ei : j.toNatClampNeg = i := by show j.toInt.toNat = i; omega
  rw [ei] at W
  rw [hv] at W
  obtain ⟨s₂, o, q1, q⟩ := H h' W (hxs ▸ F'.set W) T' _ X' e' (Fr.snoc X' N ge)
  exact ⟨s₂, o, stp _ q1, q⟩
end GoKit
theorem pn0 : plainName "com/example/bend/bend/xdm/XmlChars" = true := by first | (simp [plainName, overriddenIn]; done) | decide +kernel
theorem pn1 : plainName "com/example/bend/bend/xdm/XmlCharsIsXmlCharPinLaw" = true := by first | (simp [plainName, overriddenIn]; done) | decide +kernel
theorem pd0 : parseMethodDescriptor "(I)Z" = some ⟨[.int], some .boolean⟩ := by decide +kernel
theorem pd1 : parseMethodDescriptor "(III)Z" = some ⟨[.int, .int, .int], some .boolean⟩ := by decide +kernel
theorem d1_0 : decode prog_71_method_3_code 0 = .ok (.iload_n 0, 1) := by decide +kernel
theorem d1_1 : decode prog_71_method_3_code 1 = .ok (.bipush 9, 2) := by decide +kernel
theorem d1_3 : decode prog_71_method_3_code 3 = .ok (.if_icmp .eq 51, 3) := by decide +kernel
theorem d1_6 : decode prog_71_method_3_code 6 = .ok (.iload_n 0, 1) := by decide +kernel
theorem d1_7 : decode prog_71_method_3_code 7 = .ok (.bipush 10, 2) := by decide +kernel
theorem d1_9 : decode prog_71_method_3_code 9 = .ok (.if_icmp .eq 45, 3) := by decide +kernel
theorem d1_12 : decode prog_71_method_3_code 12 = .ok (.iload_n 0, 1) := by decide +kernel
theorem d1_13 : decode prog_71_method_3_code 13 = .ok (.bipush 13, 2) := by decide +kernel
theorem d1_15 : decode prog_71_method_3_code 15 = .ok (.if_icmp .eq 39, 3) := by decide +kernel
theorem d1_18 : decode prog_71_method_3_code 18 = .ok (.iload_n 0, 1) := by decide +kernel
theorem d1_19 : decode prog_71_method_3_code 19 = .ok (.bipush 32, 2) := by decide +kernel
theorem d1_21 : decode prog_71_method_3_code 21 = .ok (.if_icmp .lt 9, 3) := by decide +kernel
theorem d1_24 : decode prog_71_method_3_code 24 = .ok (.iload_n 0, 1) := by decide +kernel
theorem d1_25 : decode prog_71_method_3_code 25 = .ok (.ldc 7, 2) := by decide +kernel
theorem d1_27 : decode prog_71_method_3_code 27 = .ok (.if_icmp .le 27, 3) := by decide +kernel
theorem d1_30 : decode prog_71_method_3_code 30 = .ok (.iload_n 0, 1) := by decide +kernel
theorem d1_31 : decode prog_71_method_3_code 31 = .ok (.ldc 14, 2) := by decide +kernel
theorem d1_33 : decode prog_71_method_3_code 33 = .ok (.if_icmp .lt 9, 3) := by decide +kernel
theorem d1_36 : decode prog_71_method_3_code 36 = .ok (.iload_n 0, 1) := by decide +kernel
theorem d1_37 : decode prog_71_method_3_code 37 = .ok (.ldc 11, 2) := by decide +kernel
theorem d1_39 : decode prog_71_method_3_code 39 = .ok (.if_icmp .le 15, 3) := by decide +kernel
theorem d1_42 : decode prog_71_method_3_code 42 = .ok (.iload_n 0, 1) := by decide +kernel
theorem d1_43 : decode prog_71_method_3_code 43 = .ok (.ldc 12, 2) := by decide +kernel
theorem d1_45 : decode prog_71_method_3_code 45 = .ok (.if_icmp .lt 13, 3) := by decide +kernel
theorem d1_48 : decode prog_71_method_3_code 48 = .ok (.iload_n 0, 1) := by decide +kernel
theorem d1_49 : decode prog_71_method_3_code 49 = .ok (.ldc 15, 2) := by decide +kernel
theorem d1_51 : decode prog_71_method_3_code 51 = .ok (.if_icmp .gt 7, 3) := by decide +kernel
theorem d1_54 : decode prog_71_method_3_code 54 = .ok (.iconst 1, 1) := by decide +kernel
theorem d1_55 : decode prog_71_method_3_code 55 = .ok (.goto 4, 3) := by decide +kernel
theorem d1_58 : decode prog_71_method_3_code 58 = .ok (.iconst 0, 1) := by decide +kernel
theorem d1_59 : decode prog_71_method_3_code 59 = .ok (.ireturn, 1) := by decide +kernel
theorem d2_0 : decode method_2_code 0 = .ok (.iload_n 0, 1) := by decide +kernel
theorem d2_1 : decode method_2_code 1 = .ok (.ifCond .ge 5, 3) := by decide +kernel
theorem d2_4 : decode method_2_code 4 = .ok (.iconst 0, 1) := by decide +kernel
theorem d2_5 : decode method_2_code 5 = .ok (.ireturn, 1) := by decide +kernel
theorem d2_6 : decode method_2_code 6 = .ok (.iload_n 0, 1) := by decide +kernel
theorem d2_7 : decode method_2_code 7 = .ok (.ldc 7, 2) := by decide +kernel
theorem d2_9 : decode method_2_code 9 = .ok (.if_icmp .le 5, 3) := by decide +kernel
theorem d2_12 : decode method_2_code 12 = .ok (.iconst 0, 1) := by decide +kernel
theorem d2_13 : decode method_2_code 13 = .ok (.ireturn, 1) := by decide +kernel
theorem d2_14 : decode method_2_code 14 = .ok (.iload_n 0, 1) := by decide +kernel
theorem d2_15 : decode method_2_code 15 = .ok (.bipush 32, 2) := by decide +kernel
theorem d2_17 : decode method_2_code 17 = .ok (.if_icmp .ge 27, 3) := by decide +kernel
theorem d2_20 : decode method_2_code 20 = .ok (.iload_n 0, 1) := by decide +kernel
theorem d2_21 : decode method_2_code 21 = .ok (.bipush 9, 2) := by decide +kernel
theorem d2_23 : decode method_2_code 23 = .ok (.if_icmp .eq 15, 3) := by decide +kernel
theorem d2_26 : decode method_2_code 26 = .ok (.iload_n 0, 1) := by decide +kernel
theorem d2_27 : decode method_2_code 27 = .ok (.bipush 10, 2) := by decide +kernel
theorem d2_29 : decode method_2_code 29 = .ok (.if_icmp .eq 9, 3) := by decide +kernel
theorem d2_32 : decode method_2_code 32 = .ok (.iload_n 0, 1) := by decide +kernel
theorem d2_33 : decode method_2_code 33 = .ok (.bipush 13, 2) := by decide +kernel
theorem d2_35 : decode method_2_code 35 = .ok (.if_icmp .ne 7, 3) := by decide +kernel
theorem d2_38 : decode method_2_code 38 = .ok (.iconst 1, 1) := by decide +kernel
theorem d2_39 : decode method_2_code 39 = .ok (.goto 4, 3) := by decide +kernel
theorem d2_42 : decode method_2_code 42 = .ok (.iconst 0, 1) := by decide +kernel
theorem d2_43 : decode method_2_code 43 = .ok (.ireturn, 1) := by decide +kernel
theorem d2_44 : decode method_2_code 44 = .ok (.iload_n 0, 1) := by decide +kernel
theorem d2_45 : decode method_2_code 45 = .ok (.ldc 8, 2) := by decide +kernel
theorem d2_47 : decode method_2_code 47 = .ok (.if_icmp .lt 11, 3) := by decide +kernel
theorem d2_50 : decode method_2_code 50 = .ok (.iload_n 0, 1) := by decide +kernel
theorem d2_51 : decode method_2_code 51 = .ok (.ldc 9, 2) := by decide +kernel
theorem d2_53 : decode method_2_code 53 = .ok (.if_icmp .gt 5, 3) := by decide +kernel
theorem d2_56 : decode method_2_code 56 = .ok (.iconst 0, 1) := by decide +kernel
theorem d2_57 : decode method_2_code 57 = .ok (.ireturn, 1) := by decide +kernel
theorem d2_58 : decode method_2_code 58 = .ok (.iload_n 0, 1) := by decide +kernel
theorem d2_59 : decode method_2_code 59 = .ok (.ldc 10, 2) := by decide +kernel
theorem d2_61 : decode method_2_code 61 = .ok (.if_icmp .eq 9, 3) := by decide +kernel
theorem d2_64 : decode method_2_code 64 = .ok (.iload_n 0, 1) := by decide +kernel
theorem d2_65 : decode method_2_code 65 = .ok (.ldc 11, 2) := by decide +kernel
theorem d2_67 : decode method_2_code 67 = .ok (.if_icmp .ne 5, 3) := by decide +kernel
theorem d2_70 : decode method_2_code 70 = .ok (.iconst 0, 1) := by decide +kernel
theorem d2_71 : decode method_2_code 71 = .ok (.ireturn, 1) := by decide +kernel
theorem d2_72 : decode method_2_code 72 = .ok (.iconst 1, 1) := by decide +kernel
theorem d2_73 : decode method_2_code 73 = .ok (.ireturn, 1) := by decide +kernel
def ind (P : Prop) [Decidable P] : Int32 := if P then 1 else 0
def Qb (P : Prop) [Decidable P] (h0 : Heap) (v : Option Value) (h : Heap) : Prop := v = some (.int (ind P)) ∧ h0 = h
theorem qb1 {P : Prop} [Decidable P] {h0 : Heap} (hP : P) : Qb P h0 (some (.int 1)) h0 := ⟨by rw [ind, if_pos hP], rfl⟩
theorem qb0 {P : Prop} [Decidable P] {h0 : Heap} (hP : ¬ P) : Qb P h0 (some (.int 0)) h0 := ⟨by rw [ind, if_neg hP], rfl⟩
abbrev isX (x : Int) : Prop := x = 9 ∨ x = 10 ∨ x = 13 ∨ (32 ≤ x ∧ x ≤ 55295) ∨ (57344 ≤ x ∧ x ≤ 65533) ∨ (65536 ≤ x ∧ x ≤ 1114111)
abbrev R0 : Room := { frames := 0, cells := 0, slots := 0, locals := 0 }
set_option maxRecDepth 65536 in
set_option maxHeartbeats 4000000 in
theorem rm1 (Z : State) (a0 : Array Value) (hw : ∀ d ∈ tables_1, d.before a0 Z = true) (x : Int32) (h0 : Heap) (n0 : Nat) : Met Z (⟨"com/example/bend/bend/xdm/XmlChars", "isXmlChar", "(I)Z"⟩ : MethodName) prog_71_method_3_code 1 (some .boolean) R0 #[.int x] h0 n0 (Qb (isX x.toInt) h0) := by
  refine met_of (Ls := #[.val (.int x)]) pn0 (fun m => by first | (simp [entryFrame, mkF, argsToLocals, Value.category]; done) | rfl) ?_
  intro E C
  refine go_iloadN C (pc' := 1) d1_0 rfl rfl ?_
  refine go_bipush C (pc' := 3) (z := 9) d1_1 rfl rfl ?_
  refine go_ic C (pcY := 54) (pcN := 6) d1_3 (by decide) (by decide) rfl ?_ ?_
  · intro q1
    refine go_iconst C (pc' := 55) (z := 1) d1_54 rfl rfl ?_
    refine go_goto C (pc' := 59) d1_55 (by decide) (by decide) ?_
    refine go_retZ C d1_59 (by decide) (by decide) (by decide) ?_
    exact qb1 (by simp only [rel, Int32.reduceToInt] at *; omega)
  · intro q1
    refine go_iloadN C (pc' := 7) d1_6 rfl rfl ?_
    refine go_bipush C (pc' := 9) (z := 10) d1_7 rfl rfl ?_
    refine go_ic C (pcY := 54) (pcN := 12) d1_9 (by decide) (by decide) rfl ?_ ?_
    · intro q2
      refine go_iconst C (pc' := 55) (z := 1) d1_54 rfl rfl ?_
      refine go_goto C (pc' := 59) d1_55 (by decide) (by decide) ?_
      refine go_retZ C d1_59 (by decide) (by decide) (by decide) ?_
      exact qb1 (by simp only [rel, Int32.reduceToInt] at *; omega)
    · intro q2
      refine go_iloadN C (pc' := 13) d1_12 rfl rfl ?_
      refine go_bipush C (pc' := 15) (z := 13) d1_13 rfl rfl ?_
      refine go_ic C (pcY := 54) (pcN := 18) d1_15 (by decide) (by decide) rfl ?_ ?_
      · intro q3
        refine go_iconst C (pc' := 55) (z := 1) d1_54 rfl rfl ?_
        refine go_goto C (pc' := 59) d1_55 (by decide) (by decide) ?_
        refine go_retZ C d1_59 (by decide) (by decide) (by decide) ?_
        exact qb1 (by simp only [rel, Int32.reduceToInt] at *; omega)
      · intro q3
        refine go_iloadN C (pc' := 19) d1_18 rfl rfl ?_
        refine go_bipush C (pc' := 21) (z := 32) d1_19 rfl rfl ?_
        refine go_ic C (pcY := 30) (pcN := 24) d1_21 (by decide) (by decide) rfl ?_ ?_
        · intro q4
          refine go_iloadN C (pc' := 31) d1_30 rfl rfl ?_
          refine go_ldc C (pc' := 33) (z := 57344) d1_31 (own_w hw (i := 17) rfl) rfl ?_
          refine go_ic C (pcY := 42) (pcN := 36) d1_33 (by decide) (by decide) rfl ?_ ?_
          · intro q5
            refine go_iloadN C (pc' := 43) d1_42 rfl rfl ?_
            refine go_ldc C (pc' := 45) (z := 65536) d1_43 (own_w hw (i := 18) rfl) rfl ?_
            refine go_ic C (pcY := 58) (pcN := 48) d1_45 (by decide) (by decide) rfl ?_ ?_
            · intro q6
              refine go_iconst C (pc' := 59) (z := 0) d1_58 rfl rfl ?_
              refine go_retZ C d1_59 (by decide) (by decide) (by decide) ?_
              exact qb0 (by simp only [rel, Int32.reduceToInt] at *; omega)
            · intro q6
              refine go_iloadN C (pc' := 49) d1_48 rfl rfl ?_
              refine go_ldc C (pc' := 51) (z := 1114111) d1_49 (own_w hw (i := 25) rfl) rfl ?_
              refine go_ic C (pcY := 58) (pcN := 54) d1_51 (by decide) (by decide) rfl ?_ ?_
              · intro q7
                refine go_iconst C (pc' := 59) (z := 0) d1_58 rfl rfl ?_
                refine go_retZ C d1_59 (by decide) (by decide) (by decide) ?_
                exact qb0 (by simp only [rel, Int32.reduceToInt] at *; omega)
              · intro q7
                refine go_iconst C (pc' := 55) (z := 1) d1_54 rfl rfl ?_
                refine go_goto C (pc' := 59) d1_55 (by decide) (by decide) ?_
                refine go_retZ C d1_59 (by decide) (by decide) (by decide) ?_
                exact qb1 (by simp only [rel, Int32.reduceToInt] at *; omega)
          · intro q5
            refine go_iloadN C (pc' := 37) d1_36 rfl rfl ?_
            refine go_ldc C (pc' := 39) (z := 65533) d1_37 (own_w hw (i := 24) rfl) rfl ?_
            refine go_ic C (pcY := 54) (pcN := 42) d1_39 (by decide) (by decide) rfl ?_ ?_
            · intro q8
              refine go_iconst C (pc' := 55) (z := 1) d1_54 rfl rfl ?_
              refine go_goto C (pc' := 59) d1_55 (by decide) (by decide) ?_
              refine go_retZ C d1_59 (by decide) (by decide) (by decide) ?_
              exact qb1 (by simp only [rel, Int32.reduceToInt] at *; omega)
            · intro q8
              refine go_iloadN C (pc' := 43) d1_42 rfl rfl ?_
              refine go_ldc C (pc' := 45) (z := 65536) d1_43 (own_w hw (i := 18) rfl) rfl ?_
              refine go_ic C (pcY := 58) (pcN := 48) d1_45 (by decide) (by decide) rfl ?_ ?_
              · intro q9
                refine go_iconst C (pc' := 59) (z := 0) d1_58 rfl rfl ?_
                refine go_retZ C d1_59 (by decide) (by decide) (by decide) ?_
                exact qb0 (by simp only [rel, Int32.reduceToInt] at *; omega)
              · intro q9
                refine go_iloadN C (pc' := 49) d1_48 rfl rfl ?_
                refine go_ldc C (pc' := 51) (z := 1114111) d1_49 (own_w hw (i := 25) rfl) rfl ?_
                refine go_ic C (pcY := 58) (pcN := 54) d1_51 (by decide) (by decide) rfl ?_ ?_
                · intro q10
                  refine go_iconst C (pc' := 59) (z := 0) d1_58 rfl rfl ?_
                  refine go_retZ C d1_59 (by decide) (by decide) (by decide) ?_
                  exact qb0 (by simp only [rel, Int32.reduceToInt] at *; omega)
                · intro q10
                  refine go_iconst C (pc' := 55) (z := 1) d1_54 rfl rfl ?_
                  refine go_goto C (pc' := 59) d1_55 (by decide) (by decide) ?_
                  refine go_retZ C d1_59 (by decide) (by decide) (by decide) ?_
                  exact qb1 (by simp only [rel, Int32.reduceToInt] at *; omega)
        · intro q4
          refine go_iloadN C (pc' := 25) d1_24 rfl rfl ?_
          refine go_ldc C (pc' := 27) (z := 55295) d1_25 (own_w hw (i := 23) rfl) rfl ?_
          refine go_ic C (pcY := 54) (pcN := 30) d1_27 (by decide) (by decide) rfl ?_ ?_
          · intro q11
            refine go_iconst C (pc' := 55) (z := 1) d1_54 rfl rfl ?_
            refine go_goto C (pc' := 59) d1_55 (by decide) (by decide) ?_
            refine go_retZ C d1_59 (by decide) (by decide) (by decide) ?_
            exact qb1 (by simp only [rel, Int32.reduceToInt] at *; omega)
          · intro q11
            refine go_iloadN C (pc' := 31) d1_30 rfl rfl ?_
            refine go_ldc C (pc' := 33) (z := 57344) d1_31 (own_w hw (i := 17) rfl) rfl ?_
            refine go_ic C (pcY := 42) (pcN := 36) d1_33 (by decide) (by decide) rfl ?_ ?_
            · intro q12
              refine go_iloadN C (pc' := 43) d1_42 rfl rfl ?_
              refine go_ldc C (pc' := 45) (z := 65536) d1_43 (own_w hw (i := 18) rfl) rfl ?_
              refine go_ic C (pcY := 58) (pcN := 48) d1_45 (by decide) (by decide) rfl ?_ ?_
              · intro q13
                refine go_iconst C (pc' := 59) (z := 0) d1_58 rfl rfl ?_
                refine go_retZ C d1_59 (by decide) (by decide) (by decide) ?_
                exact qb0 (by simp only [rel, Int32.reduceToInt] at *; omega)
              · intro q13
                refine go_iloadN C (pc' := 49) d1_48 rfl rfl ?_
                refine go_ldc C (pc' := 51) (z := 1114111) d1_49 (own_w hw (i := 25) rfl) rfl ?_
                refine go_ic C (pcY := 58) (pcN := 54) d1_51 (by decide) (by decide) rfl ?_ ?_
                · intro q14
                  refine go_iconst C (pc' := 59) (z := 0) d1_58 rfl rfl ?_
                  refine go_retZ C d1_59 (by decide) (by decide) (by decide) ?_
                  exact qb0 (by simp only [rel, Int32.reduceToInt] at *; omega)
                · intro q14
                  refine go_iconst C (pc' := 55) (z := 1) d1_54 rfl rfl ?_
                  refine go_goto C (pc' := 59) d1_55 (by decide) (by decide) ?_
                  refine go_retZ C d1_59 (by decide) (by decide) (by decide) ?_
                  exact qb1 (by simp only [rel, Int32.reduceToInt] at *; omega)
            · intro q12
              refine go_iloadN C (pc' := 37) d1_36 rfl rfl ?_
              refine go_ldc C (pc' := 39) (z := 65533) d1_37 (own_w hw (i := 24) rfl) rfl ?_
              refine go_ic C (pcY := 54) (pcN := 42) d1_39 (by decide) (by decide) rfl ?_ ?_
              · intro q15
                refine go_iconst C (pc' := 55) (z := 1) d1_54 rfl rfl ?_
                refine go_goto C (pc' := 59) d1_55 (by decide) (by decide) ?_
                refine go_retZ C d1_59 (by decide) (by decide) (by decide) ?_
                exact qb1 (by simp only [rel, Int32.reduceToInt] at *; omega)
              · intro q15
                refine go_iloadN C (pc' := 43) d1_42 rfl rfl ?_
                refine go_ldc C (pc' := 45) (z := 65536) d1_43 (own_w hw (i := 18) rfl) rfl ?_
                refine go_ic C (pcY := 58) (pcN := 48) d1_45 (by decide) (by decide) rfl ?_ ?_
                · intro q16
                  refine go_iconst C (pc' := 59) (z := 0) d1_58 rfl rfl ?_
                  refine go_retZ C d1_59 (by decide) (by decide) (by decide) ?_
                  exact qb0 (by simp only [rel, Int32.reduceToInt] at *; omega)
                · intro q16
                  refine go_iloadN C (pc' := 49) d1_48 rfl rfl ?_
                  refine go_ldc C (pc' := 51) (z := 1114111) d1_49 (own_w hw (i := 25) rfl) rfl ?_
                  refine go_ic C (pcY := 58) (pcN := 54) d1_51 (by decide) (by decide) rfl ?_ ?_
                  · intro q17
                    refine go_iconst C (pc' := 59) (z := 0) d1_58 rfl rfl ?_
                    refine go_retZ C d1_59 (by decide) (by decide) (by decide) ?_
                    exact qb0 (by simp only [rel, Int32.reduceToInt] at *; omega)
                  · intro q17
                    refine go_iconst C (pc' := 55) (z := 1) d1_54 rfl rfl ?_
                    refine go_goto C (pc' := 59) d1_55 (by decide) (by decide) ?_
                    refine go_retZ C d1_59 (by decide) (by decide) (by decide) ?_
                    exact qb1 (by simp only [rel, Int32.reduceToInt] at *; omega)
set_option maxRecDepth 65536 in
set_option maxHeartbeats 4000000 in
theorem rm2 (Z : State) (a0 : Array Value) (hw : ∀ d ∈ tables_1, d.before a0 Z = true) (x : Int32) (h0 : Heap) (n0 : Nat) : Met Z (⟨"com/example/bend/bend/xdm/XmlCharsIsXmlCharPinLaw", "reference", "(I)Z"⟩ : MethodName) method_2_code 1 (some .boolean) R0 #[.int x] h0 n0 (Qb (isX x.toInt) h0) := by
  refine met_of (Ls := #[.val (.int x)]) pn1 (fun m => by first | (simp [entryFrame, mkF, argsToLocals, Value.category]; done) | rfl) ?_
  intro E C
  refine go_iloadN C (pc' := 1) d2_0 rfl rfl ?_
  refine go_if C (pcY := 6) (pcN := 4) d2_1 (by decide) (by decide) rfl ?_ ?_
  · intro q1
    refine go_iloadN C (pc' := 7) d2_6 rfl rfl ?_
    refine go_ldc C (pc' := 9) (z := 1114111) d2_7 (own_w hw (i := 5) rfl) rfl ?_
    refine go_ic C (pcY := 14) (pcN := 12) d2_9 (by decide) (by decide) rfl ?_ ?_
    · intro q2
      refine go_iloadN C (pc' := 15) d2_14 rfl rfl ?_
      refine go_bipush C (pc' := 17) (z := 32) d2_15 rfl rfl ?_
      refine go_ic C (pcY := 44) (pcN := 20) d2_17 (by decide) (by decide) rfl ?_ ?_
      · intro q3
        refine go_iloadN C (pc' := 45) d2_44 rfl rfl ?_
        refine go_ldc C (pc' := 47) (z := 55296) d2_45 (own_w hw (i := 6) rfl) rfl ?_
        refine go_ic C (pcY := 58) (pcN := 50) d2_47 (by decide) (by decide) rfl ?_ ?_
        · intro q4
          refine go_iloadN C (pc' := 59) d2_58 rfl rfl ?_
          refine go_ldc C (pc' := 61) (z := 65534) d2_59 (own_w hw (i := 9) rfl) rfl ?_
          refine go_ic C (pcY := 70) (pcN := 64) d2_61 (by decide) (by decide) rfl ?_ ?_
          · intro q5
            refine go_iconst C (pc' := 71) (z := 0) d2_70 rfl rfl ?_
            refine go_retZ C d2_71 (by decide) (by decide) (by decide) ?_
            exact qb0 (by simp only [rel, Int32.reduceToInt] at *; omega)
          · intro q5
            refine go_iloadN C (pc' := 65) d2_64 rfl rfl ?_
            refine go_ldc C (pc' := 67) (z := 65535) d2_65 (own_w hw (i := 8) rfl) rfl ?_
            refine go_ic C (pcY := 72) (pcN := 70) d2_67 (by decide) (by decide) rfl ?_ ?_
            · intro q6
              refine go_iconst C (pc' := 73) (z := 1) d2_72 rfl rfl ?_
              refine go_retZ C d2_73 (by decide) (by decide) (by decide) ?_
              exact qb1 (by simp only [rel, Int32.reduceToInt] at *; omega)
            · intro q6
              refine go_iconst C (pc' := 71) (z := 0) d2_70 rfl rfl ?_
              refine go_retZ C d2_71 (by decide) (by decide) (by decide) ?_
              exact qb0 (by simp only [rel, Int32.reduceToInt] at *; omega)
        · intro q4
          refine go_iloadN C (pc' := 51) d2_50 rfl rfl ?_
          refine go_ldc C (pc' := 53) (z := 57343) d2_51 (own_w hw (i := 7) rfl) rfl ?_
          refine go_ic C (pcY := 58) (pcN := 56) d2_53 (by decide) (by decide) rfl ?_ ?_
          · intro q7
            refine go_iloadN C (pc' := 59) d2_58 rfl rfl ?_
            refine go_ldc C (pc' := 61) (z := 65534) d2_59 (own_w hw (i := 9) rfl) rfl ?_
            refine go_ic C (pcY := 70) (pcN := 64) d2_61 (by decide) (by decide) rfl ?_ ?_
            · intro q8
              refine go_iconst C (pc' := 71) (z := 0) d2_70 rfl rfl ?_
              refine go_retZ C d2_71 (by decide) (by decide) (by decide) ?_
              exact qb0 (by simp only [rel, Int32.reduceToInt] at *; omega)
            · intro q8
              refine go_iloadN C (pc' := 65) d2_64 rfl rfl ?_
              refine go_ldc C (pc' := 67) (z := 65535) d2_65 (own_w hw (i := 8) rfl) rfl ?_
              refine go_ic C (pcY := 72) (pcN := 70) d2_67 (by decide) (by decide) rfl ?_ ?_
              · intro q9
                refine go_iconst C (pc' := 73) (z := 1) d2_72 rfl rfl ?_
                refine go_retZ C d2_73 (by decide) (by decide) (by decide) ?_
                exact qb1 (by simp only [rel, Int32.reduceToInt] at *; omega)
              · intro q9
                refine go_iconst C (pc' := 71) (z := 0) d2_70 rfl rfl ?_
                refine go_retZ C d2_71 (by decide) (by decide) (by decide) ?_
                exact qb0 (by simp only [rel, Int32.reduceToInt] at *; omega)
          · intro q7
            refine go_iconst C (pc' := 57) (z := 0) d2_56 rfl rfl ?_
            refine go_retZ C d2_57 (by decide) (by decide) (by decide) ?_
            exact qb0 (by simp only [rel, Int32.reduceToInt] at *; omega)
      · intro q3
        refine go_iloadN C (pc' := 21) d2_20 rfl rfl ?_
        refine go_bipush C (pc' := 23) (z := 9) d2_21 rfl rfl ?_
        refine go_ic C (pcY := 38) (pcN := 26) d2_23 (by decide) (by decide) rfl ?_ ?_
        · intro q10
          refine go_iconst C (pc' := 39) (z := 1) d2_38 rfl rfl ?_
          refine go_goto C (pc' := 43) d2_39 (by decide) (by decide) ?_
          refine go_retZ C d2_43 (by decide) (by decide) (by decide) ?_
          exact qb1 (by simp only [rel, Int32.reduceToInt] at *; omega)
        · intro q10
          refine go_iloadN C (pc' := 27) d2_26 rfl rfl ?_
          refine go_bipush C (pc' := 29) (z := 10) d2_27 rfl rfl ?_
          refine go_ic C (pcY := 38) (pcN := 32) d2_29 (by decide) (by decide) rfl ?_ ?_
          · intro q11
            refine go_iconst C (pc' := 39) (z := 1) d2_38 rfl rfl ?_
            refine go_goto C (pc' := 43) d2_39 (by decide) (by decide) ?_
            refine go_retZ C d2_43 (by decide) (by decide) (by decide) ?_
            exact qb1 (by simp only [rel, Int32.reduceToInt] at *; omega)
          · intro q11
            refine go_iloadN C (pc' := 33) d2_32 rfl rfl ?_
            refine go_bipush C (pc' := 35) (z := 13) d2_33 rfl rfl ?_
            refine go_ic C (pcY := 42) (pcN := 38) d2_35 (by decide) (by decide) rfl ?_ ?_
            · intro q12
              refine go_iconst C (pc' := 43) (z := 0) d2_42 rfl rfl ?_
              refine go_retZ C d2_43 (by decide) (by decide) (by decide) ?_
              exact qb0 (by simp only [rel, Int32.reduceToInt] at *; omega)
            · intro q12
              refine go_iconst C (pc' := 39) (z := 1) d2_38 rfl rfl ?_
              refine go_goto C (pc' := 43) d2_39 (by decide) (by decide) ?_
              refine go_retZ C d2_43 (by decide) (by decide) (by decide) ?_
              exact qb1 (by simp only [rel, Int32.reduceToInt] at *; omega)
    · intro q2
      refine go_iconst C (pc' := 13) (z := 0) d2_12 rfl rfl ?_
      refine go_retZ C d2_13 (by decide) (by decide) (by decide) ?_
      exact qb0 (by simp only [rel, Int32.reduceToInt] at *; omega)
  · intro q1
    refine go_iconst C (pc' := 5) (z := 0) d2_4 rfl rfl ?_
    refine go_retZ C d2_5 (by decide) (by decide) (by decide) ?_
    exact qb0 (by simp only [rel, Int32.reduceToInt] at *; omega)
def Q1 (v : Option Value) (h : Heap) : Prop := v = some (.int 1)
theorem own_idx (y : Int32) : ∃ i : Nat, (Int32.toInt ((y &&& (2147483647 : Int32)) % (18 : Int32))) = (i : Int) ∧ i < 18 := by
  have m1 := c_mask y 2147483647 31 (by decide) (by decide)
  have m2 := (c_irem (y &&& (2147483647 : Int32)) 18 18 (by decide)).1 (by omega)
  exact ⟨((y &&& (2147483647 : Int32)) % (18 : Int32)).toInt.toNat, by omega, by omega⟩
set_option maxRecDepth 65536 in
set_option maxHeartbeats 4000000 in
theorem rm0 (Z : State) (a0 : Array Value) (hw : ∀ d ∈ tables_1, d.before a0 Z = true) (x y z : Int32) (h0 : Heap) (n0 : Nat) (Z0 : n0 ≤ h0.size) : Met Z Jvm.Pilot.@@N@@.x code maxLocals ret room_1 #[.int x, .int y, .int z] h0 n0 Q1 := by
  refine met_of (Ls := #[.val (.int x), .val (.int y), .val (.int z), .unset, .unset, .unset, .unset, .unset, .unset]) pn1 (fun m => by first | (simp [entryFrame, mkF, argsToLocals, Value.category, maxLocals]; done) | rfl) ?_
  intro E (C : Cx E Z "com/example/bend/bend/xdm/XmlCharsIsXmlCharPinLaw" "law" code 9 (some .boolean))
  refine go_bipush C (pc' := 2) (z := 18) at_0 rfl rfl ?_
  refine go_newP C (aty := .int) (pc' := 4) (k' := 1) (n' := 18) (cap := 18) (own_w hw (i := 0) rfl) at_2 (by decide) (by decide) (by decide) rfl rfl (by decide) (by decide) rfl ?_
  intro h1 cA e1 A1
  obtain ⟨a, ea⟩ : ∃ z, z = h0.size := ⟨_, rfl⟩
  rw [← ea] at A1 ⊢
  have ga : n0 ≤ a := by omega
  have V1 : Ai Z h1 a .int [0, 0, 0, 0, 0, 0, 0, 0, 0, 0, 0, 0, 0, 0, 0, 0, 0, 0] := Ai.new A1 (by decide) rfl
  refine go_dup C (pc' := 5) at_4 rfl rfl ?_
  refine go_iconst C (pc' := 6) (z := 0) at_5 rfl rfl ?_
  refine go_bipush C (pc' := 8) (z := 9) at_6 rfl rfl ?_
  refine go_iastore C (pc' := 9) (xs' := [(9 : Int32), 0, 0, 0, 0, 0, 0, 0, 0, 0, 0, 0, 0, 0, 0, 0, 0, 0]) (i := 0) V1 rfl (by decide) rfl ga at_8 rfl ?_
  intro h2 _ V2
  clear V1
  refine go_dup C (pc' := 10) at_9 rfl rfl ?_
  refine go_iconst C (pc' := 11) (z := 1) at_10 rfl rfl ?_
  refine go_bipush C (pc' := 13) (z := 10) at_11 rfl rfl ?_
  refine go_iastore C (pc' := 14) (xs' := [(9 : Int32), (10 : Int32), 0, 0, 0, 0, 0, 0, 0, 0, 0, 0, 0, 0, 0, 0, 0, 0]) (i := 1) V2 rfl (by decide) rfl ga at_13 rfl ?_
  intro h3 _ V3
  clear V2
  refine go_dup C (pc' := 15) at_14 rfl rfl ?_
  refine go_iconst C (pc' := 16) (z := 2) at_15 rfl rfl ?_
  refine go_bipush C (pc' := 18) (z := 13) at_16 rfl rfl ?_
  refine go_iastore C (pc' := 19) (xs' := [(9 : Int32), (10 : Int32), (13 : Int32), 0, 0, 0, 0, 0, 0, 0, 0, 0, 0, 0, 0, 0, 0, 0]) (i := 2) V3 rfl (by decide) rfl ga at_18 rfl ?_
  intro h4 _ V4
  clear V3
  refine go_dup C (pc' := 20) at_19 rfl rfl ?_
  refine go_iconst C (pc' := 21) (z := 3) at_20 rfl rfl ?_
  refine go_bipush C (pc' := 23) (z := 32) at_21 rfl rfl ?_
  refine go_iastore C (pc' := 24) (xs' := [(9 : Int32), (10 : Int32), (13 : Int32), (32 : Int32), 0, 0, 0, 0, 0, 0, 0, 0, 0, 0, 0, 0, 0, 0]) (i := 3) V4 rfl (by decide) rfl ga at_23 rfl ?_
  intro h5 _ V5
  clear V4
  refine go_dup C (pc' := 25) at_24 rfl rfl ?_
  refine go_iconst C (pc' := 26) (z := 4) at_25 rfl rfl ?_
  refine go_ldc C (pc' := 28) (z := 55295) at_26 (own_w hw (i := 1) rfl) rfl ?_
  refine go_iastore C (pc' := 29) (xs' := [(9 : Int32), (10 : Int32), (13 : Int32), (32 : Int32), (55295 : Int32), 0, 0, 0, 0, 0, 0, 0, 0, 0, 0, 0, 0, 0]) (i := 4) V5 rfl (by decide) rfl ga at_28 rfl ?_
  intro h6 _ V6
  clear V5
  refine go_dup C (pc' := 30) at_29 rfl rfl ?_
  refine go_iconst C (pc' := 31) (z := 5) at_30 rfl rfl ?_
  refine go_ldc C (pc' := 33) (z := 57344) at_31 (own_w hw (i := 2) rfl) rfl ?_
  refine go_iastore C (pc' := 34) (xs' := [(9 : Int32), (10 : Int32), (13 : Int32), (32 : Int32), (55295 : Int32), (57344 : Int32), 0, 0, 0, 0, 0, 0, 0, 0, 0, 0, 0, 0]) (i := 5) V6 rfl (by decide) rfl ga at_33 rfl ?_
  intro h7 _ V7
  clear V6
  refine go_dup C (pc' := 35) at_34 rfl rfl ?_
  refine go_bipush C (pc' := 37) (z := 6) at_35 rfl rfl ?_
  refine go_ldc C (pc' := 39) (z := 65533) at_37 (own_w hw (i := 3) rfl) rfl ?_
  refine go_iastore C (pc' := 40) (xs' := [(9 : Int32), (10 : Int32), (13 : Int32), (32 : Int32), (55295 : Int32), (57344 : Int32), (65533 : Int32), 0, 0, 0, 0, 0, 0, 0, 0, 0, 0, 0]) (i := 6) V7 rfl (by decide) rfl ga at_39 rfl ?_
  intro h8 _ V8
  clear V7
  refine go_dup C (pc' := 41) at_40 rfl rfl ?_
  refine go_bipush C (pc' := 43) (z := 7) at_41 rfl rfl ?_
  refine go_ldc C (pc' := 45) (z := 65536) at_43 (own_w hw (i := 4) rfl) rfl ?_
  refine go_iastore C (pc' := 46) (xs' := [(9 : Int32), (10 : Int32), (13 : Int32), (32 : Int32), (55295 : Int32), (57344 : Int32), (65533 : Int32), (65536 : Int32), 0, 0, 0, 0, 0, 0, 0, 0, 0, 0]) (i := 7) V8 rfl (by decide) rfl ga at_45 rfl ?_
  intro h9 _ V9
  clear V8
  refine go_dup C (pc' := 47) at_46 rfl rfl ?_
  refine go_bipush C (pc' := 49) (z := 8) at_47 rfl rfl ?_
  refine go_ldc C (pc' := 51) (z := 1114111) at_49 (own_w hw (i := 5) rfl) rfl ?_
  refine go_iastore C (pc' := 52) (xs' := [(9 : Int32), (10 : Int32), (13 : Int32), (32 : Int32), (55295 : Int32), (57344 : Int32), (65533 : Int32), (65536 : Int32), (1114111 : Int32), 0, 0, 0, 0, 0, 0, 0, 0, 0]) (i := 8) V9 rfl (by decide) rfl ga at_51 rfl ?_
  intro h10 _ V10
  clear V9
  refine go_dup C (pc' := 53) at_52 rfl rfl ?_
  refine go_bipush C (pc' := 55) (z := 9) at_53 rfl rfl ?_
  refine go_iconst C (pc' := 56) (z := 0) at_55 rfl rfl ?_
  refine go_iastore C (pc' := 57) (xs' := [(9 : Int32), (10 : Int32), (13 : Int32), (32 : Int32), (55295 : Int32), (57344 : Int32), (65533 : Int32), (65536 : Int32), (1114111 : Int32), (0 : Int32), 0, 0, 0, 0, 0, 0, 0, 0]) (i := 9) V10 rfl (by decide) rfl ga at_56 rfl ?_
  intro h11 _ V11
  clear V10
  refine go_dup C (pc' := 58) at_57 rfl rfl ?_
  refine go_bipush C (pc' := 60) (z := 10) at_58 rfl rfl ?_
  refine go_bipush C (pc' := 62) (z := 31) at_60 rfl rfl ?_
  refine go_iastore C (pc' := 63) (xs' := [(9 : Int32), (10 : Int32), (13 : Int32), (32 : Int32), (55295 : Int32), (57344 : Int32), (65533 : Int32), (65536 : Int32), (1114111 : Int32), (0 : Int32), (31 : Int32), 0, 0, 0, 0, 0, 0, 0]) (i := 10) V11 rfl (by decide) rfl ga at_62 rfl ?_
  intro h12 _ V12
  clear V11
  refine go_dup C (pc' := 64) at_63 rfl rfl ?_
  refine go_bipush C (pc' := 66) (z := 11) at_64 rfl rfl ?_
  refine go_ldc C (pc' := 68) (z := 55296) at_66 (own_w hw (i := 6) rfl) rfl ?_
  refine go_iastore C (pc' := 69) (xs' := [(9 : Int32), (10 : Int32), (13 : Int32), (32 : Int32), (55295 : Int32), (57344 : Int32), (65533 : Int32), (65536 : Int32), (1114111 : Int32), (0 : Int32), (31 : Int32), (55296 : Int32), 0, 0, 0, 0, 0, 0]) (i := 11) V12 rfl (by decide) rfl ga at_68 rfl ?_
  intro h13 _ V13
  clear V12
  refine go_dup C (pc' := 70) at_69 rfl rfl ?_
  refine go_bipush C (pc' := 72) (z := 12) at_70 rfl rfl ?_
  refine go_ldc C (pc' := 74) (z := 57343) at_72 (own_w hw (i := 7) rfl) rfl ?_
  refine go_iastore C (pc' := 75) (xs' := [(9 : Int32), (10 : Int32), (13 : Int32), (32 : Int32), (55295 : Int32), (57344 : Int32), (65533 : Int32), (65536 : Int32), (1114111 : Int32), (0 : Int32), (31 : Int32), (55296 : Int32), (57343 : Int32), 0, 0, 0, 0, 0]) (i := 12) V13 rfl (by decide) rfl ga at_74 rfl ?_
  intro h14 _ V14
  clear V13
  refine go_dup C (pc' := 76) at_75 rfl rfl ?_
  refine go_bipush C (pc' := 78) (z := 13) at_76 rfl rfl ?_
  refine go_ldc C (pc' := 80) (z := 65535) at_78 (own_w hw (i := 8) rfl) rfl ?_
  refine go_iastore C (pc' := 81) (xs' := [(9 : Int32), (10 : Int32), (13 : Int32), (32 : Int32), (55295 : Int32), (57344 : Int32), (65533 : Int32), (65536 : Int32), (1114111 : Int32), (0 : Int32), (31 : Int32), (55296 : Int32), (57343 : Int32), (65535 : Int32), 0, 0, 0, 0]) (i := 13) V14 rfl (by decide) rfl ga at_80 rfl ?_
  intro h15 _ V15
  clear V14
  refine go_dup C (pc' := 82) at_81 rfl rfl ?_
  refine go_bipush C (pc' := 84) (z := 14) at_82 rfl rfl ?_
  refine go_ldc C (pc' := 86) (z := 65534) at_84 (own_w hw (i := 9) rfl) rfl ?_
  refine go_iastore C (pc' := 87) (xs' := [(9 : Int32), (10 : Int32), (13 : Int32), (32 : Int32), (55295 : Int32), (57344 : Int32), (65533 : Int32), (65536 : Int32), (1114111 : Int32), (0 : Int32), (31 : Int32), (55296 : Int32), (57343 : Int32), (65535 : Int32), (65534 : Int32), 0, 0, 0]) (i := 14) V15 rfl (by decide) rfl ga at_86 rfl ?_
  intro h16 _ V16
  clear V15
  refine go_dup C (pc' := 88) at_87 rfl rfl ?_
  refine go_bipush C (pc' := 90) (z := 15) at_88 rfl rfl ?_
  refine go_ldc C (pc' := 92) (z := 1114112) at_90 (own_w hw (i := 10) rfl) rfl ?_
  refine go_iastore C (pc' := 93) (xs' := [(9 : Int32), (10 : Int32), (13 : Int32), (32 : Int32), (55295 : Int32), (57344 : Int32), (65533 : Int32), (65536 : Int32), (1114111 : Int32), (0 : Int32), (31 : Int32), (55296 : Int32), (57343 : Int32), (65535 : Int32), (65534 : Int32), (1114112 : Int32), 0, 0]) (i := 15) V16 rfl (by decide) rfl ga at_92 rfl ?_
  intro h17 _ V17
  clear V16
  refine go_dup C (pc' := 94) at_93 rfl rfl ?_
  refine go_bipush C (pc' := 96) (z := 16) at_94 rfl rfl ?_
  refine go_ldc C (pc' := 98) (z := (-2147483648)) at_96 (own_w hw (i := 11) rfl) rfl ?_
  refine go_iastore C (pc' := 99) (xs' := [(9 : Int32), (10 : Int32), (13 : Int32), (32 : Int32), (55295 : Int32), (57344 : Int32), (65533 : Int32), (65536 : Int32), (1114111 : Int32), (0 : Int32), (31 : Int32), (55296 : Int32), (57343 : Int32), (65535 : Int32), (65534 : Int32), (1114112 : Int32), (-2147483648 : Int32), 0]) (i := 16) V17 rfl (by decide) rfl ga at_98 rfl ?_
  intro h18 _ V18
  clear V17
  refine go_dup C (pc' := 100) at_99 rfl rfl ?_
  refine go_bipush C (pc' := 102) (z := 17) at_100 rfl rfl ?_
  refine go_ldc C (pc' := 104) (z := 2147483647) at_102 (own_w hw (i := 12) rfl) rfl ?_
  refine go_iastore C (pc' := 105) (xs' := [(9 : Int32), (10 : Int32), (13 : Int32), (32 : Int32), (55295 : Int32), (57344 : Int32), (65533 : Int32), (65536 : Int32), (1114111 : Int32), (0 : Int32), (31 : Int32), (55296 : Int32), (57343 : Int32), (65535 : Int32), (65534 : Int32), (1114112 : Int32), (-2147483648 : Int32), (2147483647 : Int32)]) (i := 17) V18 rfl (by decide) rfl ga at_104 rfl ?_
  intro h19 _ V19
  clear V18
  refine go_astoreN C (pc' := 106) (Ls' := #[.val (.int x), .val (.int y), .val (.int z), .val (.ref a), .unset, .unset, .unset, .unset, .unset]) at_105 rfl rfl rfl ?_
  refine go_iloadN C (pc' := 107) at_106 rfl rfl ?_
  refine go_ldc C (pc' := 109) (z := 2147483647) at_107 (own_w hw (i := 12) rfl) rfl ?_
  refine go_iand C (pc' := 110) at_109 rfl ?_
  refine go_aloadN C (pc' := 111) at_110 rfl rfl rfl ?_
  refine go_alen C (pc' := 112) (z := 18) V19 at_111 rfl rfl ?_
  refine go_irem C (pc' := 113) at_112 (by decide) rfl ?_
  refine go_istore C (pc' := 115) (Ls' := #[.val (.int x), .val (.int y), .val (.int z), .val (.ref a), .val (.int ((y &&& (2147483647 : Int32)) % (18 : Int32))), .unset, .unset, .unset, .unset]) at_113 rfl rfl ?_
  refine go_iloadN C (pc' := 116) at_115 rfl rfl ?_
  refine go_ldc C (pc' := 118) (z := 2147483647) at_116 (own_w hw (i := 12) rfl) rfl ?_
  refine go_iand C (pc' := 119) at_118 rfl ?_
  refine go_iconst C (pc' := 120) (z := 3) at_119 rfl rfl ?_
  refine go_irem C (pc' := 121) at_120 (by decide) rfl ?_
  refine go_iconst C (pc' := 122) (z := 1) at_121 rfl rfl ?_
  refine go_isub C (pc' := 123) at_122 rfl ?_
  refine go_istore C (pc' := 125) (Ls' := #[.val (.int x), .val (.int y), .val (.int z), .val (.ref a), .val (.int ((y &&& (2147483647 : Int32)) % (18 : Int32))), .val (.int (((z &&& (2147483647 : Int32)) % (3 : Int32)) - (1 : Int32))), .unset, .unset, .unset]) at_123 rfl rfl ?_
  refine go_aloadN C (pc' := 126) at_125 rfl rfl rfl ?_
  refine go_iload C (pc' := 128) at_126 rfl rfl ?_
  obtain ⟨i, hi, hlt⟩ : ∃ i : Nat, (Int32.toInt ((y &&& (2147483647 : Int32)) % (18 : Int32))) = (i : Int) ∧ i < 18 := own_idx y
  obtain ⟨v, hv⟩ : ∃ v : Int32, ([(9 : Int32), (10 : Int32), (13 : Int32), (32 : Int32), (55295 : Int32), (57344 : Int32), (65533 : Int32), (65536 : Int32), (1114111 : Int32), (0 : Int32), (31 : Int32), (55296 : Int32), (57343 : Int32), (65535 : Int32), (65534 : Int32), (1114112 : Int32), (-2147483648 : Int32), (2147483647 : Int32)] : List Int32)[i]? = some v := ⟨_, List.getElem?_eq_getElem (by simpa using hlt)⟩
  refine go_iaload C (pc' := 129) V19 hi hv at_128 rfl ?_
  refine go_iload C (pc' := 131) at_129 rfl rfl ?_
  refine go_iadd C (pc' := 132) at_131 rfl ?_
  refine go_istore C (pc' := 134) (Ls' := #[.val (.int x), .val (.int y), .val (.int z), .val (.ref a), .val (.int ((y &&& (2147483647 : Int32)) % (18 : Int32))), .val (.int (((z &&& (2147483647 : Int32)) % (3 : Int32)) - (1 : Int32))), .val (.int (v + (((z &&& (2147483647 : Int32)) % (3 : Int32)) - (1 : Int32)))), .unset, .unset]) at_132 rfl rfl ?_
  refine go_iloadN C (pc' := 135) at_134 rfl rfl ?_
  refine go_callS C (pc' := 138) (k' := 1) (n' := 18) (argsL := [(.int x)]) (rest := []) (own_w hw (i := 13) rfl) (own_w hw (i := 14) rfl) (own_w hw (i := 15) rfl) (own_w hw (i := 16) rfl) (rm1 Z a0 hw x _ n0) at_135 rfl rfl (lenOf pd0 rfl) (by decide) (by decide) 0 rfl (by decide) rfl rfl (by decide) (by decide) rfl ?_
  rintro _ _ ⟨rfl, rfl⟩
  show Go E room_1 n0 Q1 h19 1 18 138 #[.val (.int x), .val (.int y), .val (.int z), .val (.ref a), .val (.int ((y &&& (2147483647 : Int32)) % (18 : Int32))), .val (.int (((z &&& (2147483647 : Int32)) % (3 : Int32)) - (1 : Int32))), .val (.int (v + (((z &&& (2147483647 : Int32)) % (3 : Int32)) - (1 : Int32)))), .unset, .unset] [(.int (ind (isX (Int32.toInt x))))]
  refine go_iloadN C (pc' := 139) at_138 rfl rfl ?_
  refine go_callS C (pc' := 142) (k' := 1) (n' := 18) (argsL := [(.int x)]) (rest := [(.int (ind (isX (Int32.toInt x))))]) (own_w hw (i := 19) rfl) (own_w hw (i := 20) rfl) (own_w hw (i := 21) rfl) (own_w hw (i := 22) rfl) (rm2 Z a0 hw x _ n0) at_139 rfl rfl (lenOf pd0 rfl) (by decide) (by decide) 1 rfl (by decide) rfl rfl (by decide) (by decide) rfl ?_
  rintro _ _ ⟨rfl, rfl⟩
  show Go E room_1 n0 Q1 h19 1 18 142 #[.val (.int x), .val (.int y), .val (.int z), .val (.ref a), .val (.int ((y &&& (2147483647 : Int32)) % (18 : Int32))), .val (.int (((z &&& (2147483647 : Int32)) % (3 : Int32)) - (1 : Int32))), .val (.int (v + (((z &&& (2147483647 : Int32)) % (3 : Int32)) - (1 : Int32)))), .unset, .unset] [(.int (ind (isX (Int32.toInt x)))), (.int (ind (isX (Int32.toInt x))))]
  refine go_icN C (pc' := 145) at_142 (teq rfl).2 rfl ?_
  refine go_iconst C (pc' := 146) (z := 1) at_145 rfl rfl ?_
  refine go_goto C (pc' := 150) at_146 (by decide) (by decide) ?_
  refine go_istore C (pc' := 152) (Ls' := #[.val (.int x), .val (.int y), .val (.int z), .val (.ref a), .val (.int ((y &&& (2147483647 : Int32)) % (18 : Int32))), .val (.int (((z &&& (2147483647 : Int32)) % (3 : Int32)) - (1 : Int32))), .val (.int (v + (((z &&& (2147483647 : Int32)) % (3 : Int32)) - (1 : Int32)))), .val (.int (1 : Int32)), .unset]) at_150 rfl rfl ?_
  refine go_iload C (pc' := 154) at_152 rfl rfl ?_
  refine go_callS C (pc' := 157) (k' := 1) (n' := 18) (argsL := [(.int (v + (((z &&& (2147483647 : Int32)) % (3 : Int32)) - (1 : Int32))))]) (rest := []) (own_w hw (i := 13) rfl) (own_w hw (i := 14) rfl) (own_w hw (i := 15) rfl) (own_w hw (i := 16) rfl) (rm1 Z a0 hw (v + (((z &&& (2147483647 : Int32)) % (3 : Int32)) - (1 : Int32))) _ n0) at_154 rfl rfl (lenOf pd0 rfl) (by decide) (by decide) 0 rfl (by decide) rfl rfl (by decide) (by decide) rfl ?_
  rintro _ _ ⟨rfl, rfl⟩
  show Go E room_1 n0 Q1 h19 1 18 157 #[.val (.int x), .val (.int y), .val (.int z), .val (.ref a), .val (.int ((y &&& (2147483647 : Int32)) % (18 : Int32))), .val (.int (((z &&& (2147483647 : Int32)) % (3 : Int32)) - (1 : Int32))), .val (.int (v + (((z &&& (2147483647 : Int32)) % (3 : Int32)) - (1 : Int32)))), .val (.int (1 : Int32)), .unset] [(.int (ind (isX (Int32.toInt (v + (((z &&& (2147483647 : Int32)) % (3 : Int32)) - (1 : Int32)))))))]
  refine go_iload C (pc' := 159) at_157 rfl rfl ?_
  refine go_callS C (pc' := 162) (k' := 1) (n' := 18) (argsL := [(.int (v + (((z &&& (2147483647 : Int32)) % (3 : Int32)) - (1 : Int32))))]) (rest := [(.int (ind (isX (Int32.toInt (v + (((z &&& (2147483647 : Int32)) % (3 : Int32)) - (1 : Int32)))))))]) (own_w hw (i := 19) rfl) (own_w hw (i := 20) rfl) (own_w hw (i := 21) rfl) (own_w hw (i := 22) rfl) (rm2 Z a0 hw (v + (((z &&& (2147483647 : Int32)) % (3 : Int32)) - (1 : Int32))) _ n0) at_159 rfl rfl (lenOf pd0 rfl) (by decide) (by decide) 1 rfl (by decide) rfl rfl (by decide) (by decide) rfl ?_
  rintro _ _ ⟨rfl, rfl⟩
  show Go E room_1 n0 Q1 h19 1 18 162 #[.val (.int x), .val (.int y), .val (.int z), .val (.ref a), .val (.int ((y &&& (2147483647 : Int32)) % (18 : Int32))), .val (.int (((z &&& (2147483647 : Int32)) % (3 : Int32)) - (1 : Int32))), .val (.int (v + (((z &&& (2147483647 : Int32)) % (3 : Int32)) - (1 : Int32)))), .val (.int (1 : Int32)), .unset] [(.int (ind (isX (Int32.toInt (v + (((z &&& (2147483647 : Int32)) % (3 : Int32)) - (1 : Int32))))))), (.int (ind (isX (Int32.toInt (v + (((z &&& (2147483647 : Int32)) % (3 : Int32)) - (1 : Int32)))))))]
  refine go_icN C (pc' := 165) at_162 (teq rfl).2 rfl ?_
  refine go_iconst C (pc' := 166) (z := 1) at_165 rfl rfl ?_
  refine go_goto C (pc' := 170) at_166 (by decide) (by decide) ?_
  refine go_istore C (pc' := 172) (Ls' := #[.val (.int x), .val (.int y), .val (.int z), .val (.ref a), .val (.int ((y &&& (2147483647 : Int32)) % (18 : Int32))), .val (.int (((z &&& (2147483647 : Int32)) % (3 : Int32)) - (1 : Int32))), .val (.int (v + (((z &&& (2147483647 : Int32)) % (3 : Int32)) - (1 : Int32)))), .val (.int (1 : Int32)), .val (.int (1 : Int32))]) at_170 rfl rfl ?_
  refine go_iload C (pc' := 174) at_172 rfl rfl ?_
  refine go_ifN C (pc' := 177) at_174 rfl rfl ?_
  refine go_iload C (pc' := 179) at_177 rfl rfl ?_
  refine go_ifN C (pc' := 182) at_179 rfl rfl ?_
  refine go_iconst C (pc' := 183) (z := 1) at_182 rfl rfl ?_
  refine go_goto C (pc' := 187) at_183 (by decide) (by decide) ?_
  refine go_retZ C at_187 (by decide) (by decide) (by decide) ?_
  exact rfl
set_option maxRecDepth 65536 in
set_option maxHeartbeats 4000000 in
theorem comes_1 {Post : Tables → Env → Array Value → State → Outcome → State → Prop} (hpost : ∀ tb e args s v u, (limb_1_1.after args s (.returned v) u = true ∧ limb_1_2.after args s (.returned v) u = true ∧ True) → FrameEnd s (.returned v) u (Jvm.fieldLocs frame_1_writes args s ++ Jvm.arrayLocs frame_1_arrays args s ++ Jvm.staticLocs frame_1_statics s) 16 128 → Post tb e args s (.returned v) u) :
    ArmFor flags0 classFile x code maxLocals ret World_1 tables_1 room_1 Calls_1 rest_1 Pre_1 Post := by
  intro l hfl _ _ p e ha hc hk s m args below hf hA hF happ hP
  obtain ⟨hcalls, hrest, hpre⟩ := hP
  obtain ⟨-, -, -, hnamed, -, -, -, hat⟩ := (Spec.applies_iff hf).mp happ
  obtain ⟨hg, hn⟩ := and_e (Cond.before_iff.mp (show (Jvm.Cond.and given_1 narrow_1).before args s = true from hpre))
  obtain ⟨hcnt, g0⟩ := and_e hg
  obtain ⟨f0, g1⟩ := and_e g0
  obtain ⟨f1, g2⟩ := and_e g1
  obtain ⟨w0, w1, w2, rfl⟩ : ∃ w0 w1 w2 : Value, args = #[w0, w1, w2] := by
    have hs : args.size = 3 := by simpa [Cond.value, given_1] using hcnt
    obtain ⟨L⟩ := args
    match L, hs with
    | [w0, w1, w2], _ => exact ⟨w0, w1, w2, rfl⟩
  have hw := fun d (hd : d ∈ tables_1) => atoms_spec (ws := Jvm.Cond.code x code maxLocals ret :: tables_1) hat d (List.mem_cons_of_mem _ hd)
  obtain ⟨i0, e0⟩ := is_v f0
  obtain rfl : w0 = (.int i0) := Option.some.inj e0
  obtain ⟨i1, e1⟩ := is_v f1
  obtain rfl : w1 = (.int i1) := Option.some.inj e1
  obtain ⟨i2, e2⟩ := is_v g2
  obtain rfl : w2 = (.int i2) := Option.some.inj e2
  obtain ⟨n, o, h1, h2, h3, _, L, rfl, ⟨rfl, N⟩, hq⟩ := rm0 s _ hw i0 i1 i2 s.heap s.heap.size (Nat.le_refl _) l tables_1 p e ha hc hk s m _ below hf ((Spec.applies_iff_loose hf).mp happ).1 ⟨rfl, State.Warmed39.refl s, rfl⟩ trivial
  refine ⟨n, _, h1, h2, h3, hpost _ _ _ _ _ _ ⟨Cond.after_iff.mpr rfl, Cond.after_iff.mpr (eq_i res_at (Term.int_eval (1)) rfl), trivial⟩ ⟨hq.1, hq.2.1, (hq.2.2.sift fun y hy => Or.inr (N y hy)).mono (by decide) (by decide)⟩⟩
theorem main_1_1 : Claimed_1_1 := comes_1 fun _ _ _ _ _ _ h hF => ⟨h.1, hF⟩
theorem main_1_2 : Claimed_1_2 := comes_1 fun _ _ _ _ _ _ h hF => ⟨h.2.1, hF⟩
end Jvm.Pilot.@@N@@
namespace Jvm.Pilot.@@N@@
open Jvm Jvm.ClassFile Sem Op Lib Jvm.Free Jvm.Stand Jvm.Pilot.@@N@@.Jvm.D
/-! MADE BY PROGRAM (witnessworld.py) out of the Statement's table words and the real class files: 9 classes; the members and pool entries that the words name. The judged class is class 1, her method 2. -/
namespace start1
open Jvm.ClassFile
def u (s : String) : CpInfo := .utf8 (stringToUtf16 s)
/-- a pool by its gaps: so many unusable entries, then the entry; so many at the end -/
def gap : Nat → List CpInfo → List CpInfo
  | 0, r => r
  | n + 1, r => .unusable :: gap n r
def poolList (es : List (Nat × CpInfo)) (last : Nat) : List CpInfo := es.foldr (fun e r => gap e.1 (e.2 :: r)) (gap last [])
def pool (es : List (Nat × CpInfo)) (last : Nat) : Array CpInfo := ⟨poolList es last⟩
def fileOf (pool : Array CpInfo) (this : Nat) (attrs : Array Attribute := #[]) (ms : Array MethodInfo := #[]) (fl : Nat := 33) (sup : Nat := 0) (ifs : Array Nat := #[]) (fds : Array FieldInfo := #[]) : ClassFile where
  minorVersion := 0
  majorVersion := 65
  constantPool := pool
  accessFlags := fl
  thisClass := this
  superClass := sup
  interfaces := ifs
  fields := fds
  methods := ms
  attributes := attrs
def plain (name : String) (sup : Option ClassId) : Class where
  name := name
  kind := .ordinary
  loader := none
  accessFlags := 33
  super := sup
  interfaces := #[]
  cf := none
  fields := #[]
  methods := #[]
  instanceTypes := #[]
  staticTypes := #[]
  resolved := #[]
  callSites := []
  init := .initialized
  statics := none
  mirror := none

def pool0 : Array CpInfo := pool [(5, u "<init>"), (0, u "()V"), (1, .class_ 10), (1, u "java/lang/Object")] 113

def k0m0 : Method := { name := "<init>", desc := "()V", sig := { parameters := [], returnType := none }, accessFlags := 1, code := none }
/-- java/lang/Object -/
def k0 : Class := { plain "java/lang/Object" none with
  accessFlags := 33
  interfaces := #[]
  cf := some (fileOf pool0 8 #[] #[{ accessFlags := 1, nameIndex := 5, descriptorIndex := 6, attributes := #[] }] 33 0 #[] #[])
  fields := #[]
  methods := #[k0m0]
  instanceTypes := #[]
  staticTypes := #[]
  resolved := Array.replicate 124 none
  statics := none }

def pool1 : Array CpInfo := pool [(2, .class_ 4), (1, u "java/lang/Object"), (0, u "<init>"), (0, u "()V"), (0, .integer 1114111), (0, .integer 55296), (0, .integer 57343), (0, .integer 65534), (0, .integer 65535), (0, .integer 55295), (0, .integer 57344), (0, .integer 65533), (0, .integer 65536), (0, .integer 1114112), (2, .integer 2147483648), (0, .integer 2147483647), (0, .methodref 22 23), (0, .class_ 24), (0, .nameAndType 25 26), (0, u "com/example/bend/bend/xdm/XmlChars"), (0, u "isXmlChar"), (0, u "(I)Z"), (0, .methodref 28 29), (0, .class_ 30), (0, .nameAndType 31 26), (0, u "com/example/bend/bend/xdm/XmlCharsIsXmlCharPinLaw"), (0, u "reference"), (3, u "law"), (0, u "(III)Z")] 4

def k1m0 : Method := { name := "<init>", desc := "()V", sig := { parameters := [], returnType := none }, accessFlags := 2, code := none }
def k1c1 : Code := { maxStack := 2, maxLocals := 1, code := method_2_code, exceptionTable := #[], attributes := #[] }
def k1m1 : Method := { name := "reference", desc := "(I)Z", sig := { parameters := [.int], returnType := some .boolean }, accessFlags := 10, code := some k1c1 }
def k1c2 : Code := { maxStack := 4, maxLocals := 9, code := code, exceptionTable := #[], attributes := #[] }
def k1m2 : Method := { name := "law", desc := "(III)Z", sig := { parameters := [.int, .int, .int], returnType := some .boolean }, accessFlags := 9, code := some k1c2 }
/-- com/example/bend/bend/xdm/XmlCharsIsXmlCharPinLaw -/
def k1 : Class := { plain "com/example/bend/bend/xdm/XmlCharsIsXmlCharPinLaw" (some 0) with
  accessFlags := 49
  interfaces := #[]
  cf := some (fileOf pool1 28 #[] #[{ accessFlags := 2, nameIndex := 5, descriptorIndex := 6, attributes := #[] }, { accessFlags := 10, nameIndex := 31, descriptorIndex := 26, attributes := #[] }, { accessFlags := 9, nameIndex := 35, descriptorIndex := 36, attributes := #[] }] 49 2 #[] #[])
  fields := #[]
  methods := #[k1m0, k1m1, k1m2]
  instanceTypes := #[]
  staticTypes := #[]
  resolved := Array.replicate 41 none
  statics := none }

def pool2 : Array CpInfo := pool [(2, .class_ 4), (1, u "java/lang/Object"), (0, u "<init>"), (0, u "()V"), (0, .integer 55295), (3, .integer 65533), (0, .integer 65536), (1, .integer 57344), (0, .integer 1114111), (1, .class_ 19), (1, u "com/example/bend/bend/xdm/XmlChars"), (1, u "(I)Z"), (52, u "LANGUAGE"), (0, u "Ljava/util/regex/Pattern;"), (20, u "WHITESPACE_RUN"), (53, u "isXmlChar")] 35

def k2m0 : Method := { name := "<init>", desc := "()V", sig := { parameters := [], returnType := none }, accessFlags := 2, code := none }
def k2c1 : Code := { maxStack := 2, maxLocals := 1, code := prog_71_method_3_code, exceptionTable := #[], attributes := #[] }
def k2m1 : Method := { name := "isXmlChar", desc := "(I)Z", sig := { parameters := [.int], returnType := some .boolean }, accessFlags := 9, code := some k2c1 }
/-- com/example/bend/bend/xdm/XmlChars -/
def k2 : Class := { plain "com/example/bend/bend/xdm/XmlChars" (some 0) with
  accessFlags := 49
  interfaces := #[]
  cf := some (fileOf pool2 17 #[] #[{ accessFlags := 2, nameIndex := 5, descriptorIndex := 6, attributes := #[] }, { accessFlags := 9, nameIndex := 150, descriptorIndex := 21, attributes := #[] }] 49 2 #[] #[{ accessFlags := 26, nameIndex := 74, descriptorIndex := 75, attributes := #[] }, { accessFlags := 26, nameIndex := 96, descriptorIndex := 75, attributes := #[] }])
  fields := #[{ name := "LANGUAGE", type := (.object "java/util/regex/Pattern"), accessFlags := 26, slot := 0, constantValue := 0 }, { name := "WHITESPACE_RUN", type := (.object "java/util/regex/Pattern"), accessFlags := 26, slot := 1, constantValue := 0 }]
  methods := #[k2m0, k2m1]
  instanceTypes := #[]
  staticTypes := #[(.object "java/util/regex/Pattern"), (.object "java/util/regex/Pattern")]
  resolved := Array.replicate 186 none
  statics := none }

def pool3 : Array CpInfo := pool [(1, u "java/lang/Cloneable"), (0, .class_ 1), (0, u "java/lang/Object"), (0, .class_ 3)] 3

/-- java/lang/Cloneable -/
def k3 : Class := { plain "java/lang/Cloneable" (some 0) with
  accessFlags := 1537
  interfaces := #[]
  cf := some (fileOf pool3 2 #[] #[] 1537 4 #[] #[])
  fields := #[]
  methods := #[]
  instanceTypes := #[]
  staticTypes := #[]
  resolved := Array.replicate 8 none
  statics := none }

def pool4 : Array CpInfo := pool [(1, u "java/io/Serializable"), (0, .class_ 1), (0, u "java/lang/Object"), (0, .class_ 3)] 3

/-- java/io/Serializable -/
def k4 : Class := { plain "java/io/Serializable" (some 0) with
  accessFlags := 1537
  interfaces := #[]
  cf := some (fileOf pool4 2 #[] #[] 1537 4 #[] #[])
  fields := #[]
  methods := #[]
  instanceTypes := #[]
  staticTypes := #[]
  resolved := Array.replicate 8 none
  statics := none }

/-- the primitive byte -/
def k5 : Class := { plain "byte" none with kind := .primitive 'B', accessFlags := 0x411 }
/-- [B -/
def k6 : Class := { plain "[B" (some 0) with kind := .array 5 .byte, interfaces := #[3, 4], accessFlags := 1041 }

/-- the primitive int -/
def k7 : Class := { plain "int" none with kind := .primitive 'I', accessFlags := 0x411 }
/-- [I -/
def k8 : Class := { plain "[I" (some 0) with kind := .array 7 .int, interfaces := #[3, 4], accessFlags := 1041 }

def heap : Heap := #[]
def classes : Array Class := #[k0, k1, k2, k3, k4, k5, k6, k7, k8]
def interned : List (Array UInt16 × Addr) := []
def slotsUsed : Nat := 0
def theMethod : MethodId := ⟨1, 2⟩
def args0 : Array Value := #[.int 65, .int 3, .int 1]
def aboutOver (below : List Frame) : State where
  vm := { classes := classes, interned := interned.toArray }
  heap := heap
  slotsUsed := slotsUsed
  threads := #[{ frames := .invoking theMethod args0 :: below }]
def below0 : List Frame := [.native { method := ⟨0, 0⟩, args := #[] }]
def about1 : State := aboutOver below0
def p0 : Program := .bare "" "" ""
def e0 : Env := launch0.env 0 0 0
theorem w_frames : about1.frames = Frame.invoking theMethod args0 :: below0 := rfl
set_option maxRecDepth 65536 in
theorem w_args : argsFit about1.vm theMethod args0 = true := by decide +kernel
set_option maxRecDepth 65536 in
theorem w_heap : heapFits about1 = true := by decide +kernel
set_option maxRecDepth 65536 in
theorem w_runnable : about1.curStatus? = some .runnable := by decide +kernel
set_option maxRecDepth 65536 in
theorem w_alone : about1.alone = true := by decide +kernel
set_option maxRecDepth 65536 in
theorem w_named : about1.methodNamed? x = some theMethod := by decide +kernel
set_option maxRecDepth 65536 in
theorem w_hears : about1.hears theMethod below0 = true := by decide +kernel
set_option maxRecDepth 65536 in
theorem w_ripe : about1.ripe theMethod args0 below0 = true := by decide +kernel
theorem w_running : about1.status = .running := rfl
set_option maxRecDepth 65536 in
theorem w_room : about1.hasRoom e0.platform room_1 = true :=
  launch0.hasRoom_least _ room_1 (by decide +kernel) (by decide +kernel) (by decide +kernel) (by decide +kernel) (by decide +kernel) (by decide +kernel)
theorem allAtoms_all (ts : List Jvm.Cond) (a : Array Jvm.Value) (st : Jvm.State) : (allAtoms ts).before a st = ts.all (fun c => c.before a st) := by
  induction ts with
  | nil => rfl
  | cons c t ih =>
    show (Jvm.Cond.and c (allAtoms t)).before a st = _
    rw [Jvm.Cond.before_and, ih, List.all_cons]
def words1 : List Jvm.Cond := Jvm.Cond.code x code maxLocals ret :: tables_1
/-- a 'code' word, met by the world's own term for the bytes: nothing is compared byte by byte -/
theorem code_word {y : MethodName} {bytes : ByteArray} {mx : Nat} {rt : Option FieldType} {a : Array Value} {s : State} {m : MethodId} {meth : Method} {c : Code} (h1 : s.methodNamed? y = some m) (h2 : s.vm.method? m = some meth) (h3 : meth.code = some c) (h4 : c.code = bytes)
    (h5 : (c.maxLocals == mx && c.exceptionTable.isEmpty && decide (c.maxStack ≤ mostOperands) && decide (meth.sig.returnType = rt) && !meth.locks && decide (parseMethodDescriptor y.desc = some meth.sig)) = true) : (Jvm.Cond.code y bytes mx rt).before a s = true := by
  simp only [Bool.and_eq_true, beq_iff_eq, Bool.not_eq_true', decide_eq_true_eq] at h5
  obtain ⟨⟨⟨⟨⟨g1, g2⟩, g3⟩, g4⟩, g5⟩, g6⟩ := h5
  simp [Cond.before, Cond.holds, Cond.value, h1, h2, h3, h4, g1, g2, g3, g4, g5, g6]
def isCode : Jvm.Cond → Bool
  | .code _ _ _ _ => true
  | _ => false
theorem all_split {L : List Jvm.Cond} {P : Jvm.Cond → Bool} (h1 : L.all (fun c => isCode c || P c) = true) (h2 : ∀ c ∈ L.filter isCode, P c = true) : L.all P = true := by
  refine List.all_eq_true.mpr fun c hc => ?_
  have h := List.all_eq_true.mp h1 c hc
  rcases Bool.eq_false_or_eq_true (isCode c) with hi | hi
  · exact h2 c (List.mem_filter.mpr ⟨hc, hi⟩)
  · simpa [hi] using h
set_option maxRecDepth 65536 in
theorem w_c0 : (Jvm.Cond.code x code maxLocals ret).before args0 about1 = true := code_word (m := ⟨1, 2⟩) (meth := k1m2) (c := k1c2) (by decide +kernel) rfl rfl rfl (by decide +kernel)
set_option maxRecDepth 65536 in
theorem w_c1 : (Jvm.Cond.code ({ cls := "com/example/bend/bend/xdm/XmlChars", name := "isXmlChar", desc := "(I)Z" } : Jvm.MethodName) prog_71_method_3_code (1 : Nat) (Option.some Jvm.ClassFile.FieldType.boolean)).before args0 about1 = true := code_word (m := ⟨2, 1⟩) (meth := k2m1) (c := k2c1) (by decide +kernel) rfl rfl rfl (by decide +kernel)
set_option maxRecDepth 65536 in
theorem w_c2 : (Jvm.Cond.code ({ cls := "com/example/bend/bend/xdm/XmlCharsIsXmlCharPinLaw", name := "reference", desc := "(I)Z" } : Jvm.MethodName) method_2_code (1 : Nat) (Option.some Jvm.ClassFile.FieldType.boolean)).before args0 about1 = true := code_word (m := ⟨1, 1⟩) (meth := k1m1) (c := k1c1) (by decide +kernel) rfl rfl rfl (by decide +kernel)
def codes1 : List Jvm.Cond := [Jvm.Cond.code x code maxLocals ret, Jvm.Cond.code ({ cls := "com/example/bend/bend/xdm/XmlChars", name := "isXmlChar", desc := "(I)Z" } : Jvm.MethodName) prog_71_method_3_code (1 : Nat) (Option.some Jvm.ClassFile.FieldType.boolean), Jvm.Cond.code ({ cls := "com/example/bend/bend/xdm/XmlCharsIsXmlCharPinLaw", name := "reference", desc := "(I)Z" } : Jvm.MethodName) method_2_code (1 : Nat) (Option.some Jvm.ClassFile.FieldType.boolean)]
set_option maxRecDepth 65536 in
theorem codes_eq : words1.filter isCode = codes1 := rfl
theorem w_codes : ∀ c ∈ words1.filter isCode, c.before args0 about1 = true := by
  rw [codes_eq]
  intro c hc
  simp only [codes1, List.mem_cons, List.not_mem_nil, or_false] at hc
  rcases hc with rfl | rfl | rfl
  · exact w_c0
  · exact w_c1
  · exact w_c2
set_option maxRecDepth 65536 in
theorem w_t1 : (words1.take 24).all (fun c => isCode c || c.before args0 about1) = true := by decide +kernel
set_option maxRecDepth 65536 in
theorem w_t2 : (words1.drop 24).all (fun c => isCode c || c.before args0 about1) = true := by decide +kernel
theorem w_tables : (allAtoms (Jvm.Cond.code x code maxLocals ret :: tables_1)).before args0 about1 = true := by
  rw [allAtoms_all]
  show words1.all (fun c => c.before args0 about1) = true
  refine all_split ?_ w_codes
  rw [← List.take_append_drop 24 words1, List.all_append, w_t1, w_t2]
  rfl
set_option maxRecDepth 65536 in
theorem w_case : (Jvm.Cond.and given_1 narrow_1).before args0 about1 = true := by decide +kernel
theorem w_applies : (headSpec (Jvm.Cond.code x code maxLocals ret :: tables_1) room_1).applies x e0.platform about1 = true :=
  (Spec.applies_iff w_frames).mpr ⟨w_running, w_runnable, w_alone, w_named, w_hears, w_ripe, w_room, w_tables⟩
theorem atStart : AtStart classFile x code maxLocals ret World_1 tables_1 room_1 Calls_1 rest_1 Pre_1 launch0 p0 e0 about1 theMethod args0 below0 :=
  ⟨lists_1, trivial, launch0.admits_env _ _ _, launch0.least_env, fairChoices_fair.cas, fairChoices_fair.clock, w_frames, w_args, w_heap, w_applies, trivial, trivial, w_case⟩
end start1
theorem witness_1 : WitnessClaimed_1 := ⟨start1.p0, start1.e0, start1.about1, start1.theMethod, start1.args0, start1.below0, start1.atStart⟩
end Jvm.Pilot.@@N@@
