import JvmDerived
import JvmDerived.Pilot.@@N@@Statement
import JvmDerived.Pilot.@@N@@Code
set_option linter.unusedVariables false
set_option linter.unusedSimpArgs false
namespace Jvm.Pilot.@@N@@
open Jvm Jvm.ClassFile Sem Op Lib Jvm.Free Jvm.Stand Jvm.LawKit Jvm.RoadKit Bundle Jvm.Pilot.@@N@@.Jvm.D
/-! ## THE LAYER OF THIS SEAT (GoKit): one predicate 'Go': from this pc, these locals and this stack, over the heap h, with k cells and n slots made, the body ends as Q says -/
abbrev Noise : Type := Program × Launch × Env × State × MethodId × Array Value × List Frame × Method × Code
def Cx (E : Noise) (Z : State) (own nm : String) (bytes : ByteArray) (mx : Nat) (rt : Option FieldType) : Prop :=
  E.1.tables.exec = Jvm.exec ∧ E.2.2.2.2.2.2.2.2.code = bytes ∧ E.2.2.2.2.2.2.2.2.maxLocals = mx ∧ Z.Warmed39 E.2.2.2.1.vm ∧ E.2.2.2.1.vm.findClass own = some E.2.2.2.2.1.cls ∧ E.2.2.2.2.2.2.2.1.sig.returnType = rt ∧ E.2.2.2.2.2.2.2.1.locks = false ∧ E.2.2.2.2.2.2.2.1.name = nm
abbrev Sd (E : Noise) (R : Room) (T : State) (locs : List Loc) (k n : Nat) : Prop := Stand E.1 E.2.1 E.2.2.1 R E.2.2.2.1 E.2.2.2.2.1 E.2.2.2.2.2.1 E.2.2.2.2.2.2.1 E.2.2.2.2.2.2.2.1 E.2.2.2.2.2.2.2.2 T locs k n
abbrev Sp (E : Noise) (a b : State) : Prop := Steps E.1.tables E.2.2.1 E.2.2.2.2.2.2.1 a b
def Go (E : Noise) (R : Room) (n0 : Nat) (Q : Option Value → Heap → Prop) (h : Heap) (k n : Nat) (pc : Nat) (Ls : Array Slot) (st : List Value) : Prop :=
  ∀ (T : State) (locs : List Loc), Sd E R T locs k n → T.heap = h → Fr n0 locs →
    ∃ s₂ o, Sp E (T.setTop (mkF E.2.2.2.2.1 pc Ls st)) s₂ ∧ s₂.status = .running ∧ Ended s₂ E.2.2.2.2.2.2.1 o ∧ ∃ v L, o = .returned v ∧ (Q v s₂.heap ∧ Fr n0 L) ∧ FrameEnd E.2.2.2.1 o s₂ L R.cells R.slots
def Met (Z : State) (y : MethodName) (bytes : ByteArray) (mx : Nat) (rt : Option FieldType) (R : Room) (as : Array Value) (h0 : Heap) (n0 : Nat) (Q : Option Value → Heap → Prop) : Prop :=
  ∀ (l : Launch) (ws : List Jvm.Cond), MetFree l y (head1 (Jvm.Cond.code y bytes mx rt :: ws) R) (fun a U => a = as ∧ Z.Warmed39 U.vm ∧ U.heap = h0) (fun _ _ _ _ _ => True)
    (fun _ U o U' => ∃ v L, o = .returned v ∧ (Q v U'.heap ∧ Fr n0 L) ∧ FrameEnd U o U' L R.cells R.slots)
section GoKit
variable {E : Noise} {Z : State} {own nm : String} {bytes : ByteArray} {mx : Nat} {rt : Option FieldType} {R : Room} {n0 : Nat} {Q : Option Value → Heap → Prop} {h : Heap} {k n : Nat} {pc pc' : Nat} {Ls Ls' : Array Slot} {st rest : List Value} {a0 : Array Value}
theorem own_w {i : Nat} {d : Jvm.Cond} (hw : ∀ d ∈ tables_1, d.before a0 Z = true) (q : tables_1[i]? = some d) : d.before a0 Z = true := hw _ (List.mem_of_getElem? q)
theorem nne {x y : Nat} (q : x ≠ y) : @Ne Jvm.Addr x y := q
theorem nnS {x y : Nat} {L : List Nat} (q : x ≠ y) (r : x ∉ L) : x ∉ y :: L := ninS q r
theorem exa_lt {a : Nat} {K : String} (F : Exa Z h a K) : a < h.size := F.lt
theorem keep_wr {h0 h' : Heap} {ws : List Nat} {a sl : Nat} {v : Value} (K : Keep h0 h ws) (W : Wr h h' a sl v) (q : h0.size ≤ a) : Keep h0 h' ws := K.wr W (Or.inr q)
theorem met_of {y : MethodName} {as : Array Value} {h0 : Heap} (hpn : plainName y.cls = true) (hent : ∀ m, entryFrame m as mx = mkF m 0 Ls [])
    (H : ∀ E : Noise, Cx E Z y.cls y.name bytes mx rt → Go E R n0 Q h0 0 0 0 Ls []) : Met Z y bytes mx rt R as h0 n0 Q := by
  intro l ws
  refine MetFree.of_bodySF (plainFor_of_name hpn) hisR ?_
  intro p e s m args below meth c s₁ Bd hml0 hP hK
  obtain ⟨rfl, hZ, hh⟩ := hP
  have hown : s.vm.findClass y.cls = some m.cls := findClass_of_methodNamed Bd.named
  have X0 : Stand p l e R s m args below meth c s₁ [] 0 0 := Stand.of_body Bd
  have e0 : s₁.heap = h0 := by rw [← hh, Bd.state]; rfl
  obtain ⟨s₂, o, q1, q2, q3, q4⟩ := H (p, l, e, s, m, args, below, meth, c) ⟨Bd.exec, Bd.bytes, hml0, hZ, hown, Bd.returns, Bd.notSynchronized, (name_of_methodNamed Bd.named Bd.method).1⟩ s₁ [] X0 e0 (Fr.nil n0)
  exact ⟨s₂, o, castTop (hent m) q1, q2, q3, q4⟩
theorem go_step (H : Go E R n0 Q h k n pc' Ls' rest) (f : ∀ T locs target, Sd E R T locs k n → T.heap = h → Sp E (T.setTop (mkF E.2.2.2.2.1 pc' Ls' rest)) target → Sp E (T.setTop (mkF E.2.2.2.2.1 pc Ls st)) target) : Go E R n0 Q h k n pc Ls st := fun T locs X hh N => by
  obtain ⟨s₂, o, q1, q⟩ := H T locs X hh N
  exact ⟨s₂, o, f T locs s₂ X hh q1, q⟩
theorem go_more {k' n' : Nat} (hk : k ≤ k') (hn : n ≤ n') (H : Go E R n0 Q h k' n' pc Ls st) : Go E R n0 Q h k n pc Ls st := fun T locs X hh N => H T locs (X.more hk hn) hh N
theorem go_aloadN (C : Cx E Z own nm bytes mx rt) {i : Fin 4} {v : Value} (hd : decode bytes pc = .ok (.aload_n i, 1)) (hl : Ls[i.val]? = some (.val v)) (hv : v.isRef = true) (hp : pc + 1 = pc') (H : Go E R n0 Q h k n pc' Ls (v :: st)) : Go E R n0 Q h k n pc Ls st := by
  subst hp; exact go_step H fun T locs t X _ q => XS.aloadN X.here C.1 rfl (hb C.2.1 hd) hl hv q
theorem go_aload (C : Cx E Z own nm bytes mx rt) {i : Nat} {v : Value} (hd : decode bytes pc = .ok (.aload i, 2)) (hl : Ls[i]? = some (.val v)) (hv : v.isRef = true) (hp : pc + 2 = pc') (H : Go E R n0 Q h k n pc' Ls (v :: st)) : Go E R n0 Q h k n pc Ls st := by
  subst hp; exact go_step H fun T locs t X _ q => XS.aload X.here C.1 rfl (hb C.2.1 hd) hl hv q
theorem go_iloadN (C : Cx E Z own nm bytes mx rt) {i : Fin 4} {v : Int32} (hd : decode bytes pc = .ok (.iload_n i, 1)) (hl : Ls[i.val]? = some (.val (.int v))) (hp : pc + 1 = pc') (H : Go E R n0 Q h k n pc' Ls (.int v :: st)) : Go E R n0 Q h k n pc Ls st := by
  subst hp; exact go_step H fun T locs t X _ q => XS.iloadN X.here C.1 rfl (hb C.2.1 hd) hl q
theorem go_iload (C : Cx E Z own nm bytes mx rt) {i : Nat} {v : Int32} (hd : decode bytes pc = .ok (.iload i, 2)) (hl : Ls[i]? = some (.val (.int v))) (hp : pc + 2 = pc') (H : Go E R n0 Q h k n pc' Ls (.int v :: st)) : Go E R n0 Q h k n pc Ls st := by
  subst hp; exact go_step H fun T locs t X _ q => XS.iload X.here C.1 rfl (hb C.2.1 hd) hl q
theorem go_lloadN (C : Cx E Z own nm bytes mx rt) {i : Fin 4} {v : Int64} (hd : decode bytes pc = .ok (.lload_n i, 1)) (hl : Ls[i.val]? = some (.val (.long v))) (hp : pc + 1 = pc') (H : Go E R n0 Q h k n pc' Ls (.long v :: st)) : Go E R n0 Q h k n pc Ls st := by
  subst hp; exact go_step H fun T locs t X _ q => XT.lloadN X.here C.1 rfl (hb C.2.1 hd) hl q
theorem go_lload (C : Cx E Z own nm bytes mx rt) {i : Nat} {v : Int64} (hd : decode bytes pc = .ok (.lload i, 2)) (hl : Ls[i]? = some (.val (.long v))) (hp : pc + 2 = pc') (H : Go E R n0 Q h k n pc' Ls (.long v :: st)) : Go E R n0 Q h k n pc Ls st := by
  subst hp; exact go_step H fun T locs t X _ q => XT.lload X.here C.1 rfl (hb C.2.1 hd) hl q
theorem go_iconst (C : Cx E Z own nm bytes mx rt) {i : Int} {z : Int32} (hd : decode bytes pc = .ok (.iconst i, 1)) (hz : Int32.ofInt i = z) (hp : pc + 1 = pc') (H : Go E R n0 Q h k n pc' Ls (.int z :: st)) : Go E R n0 Q h k n pc Ls st := by
  subst hp hz; exact go_step H fun T locs t X _ q => XS.iconst X.here C.1 rfl (hb C.2.1 hd) q
theorem go_lconst (C : Cx E Z own nm bytes mx rt) {i : Fin 2} {z : Int64} (hd : decode bytes pc = .ok (.lconst i, 1)) (hz : Int64.ofNat i = z) (hp : pc + 1 = pc') (H : Go E R n0 Q h k n pc' Ls (.long z :: st)) : Go E R n0 Q h k n pc Ls st := by
  subst hp hz; exact go_step H fun T locs t X _ q => XT.lconst X.here C.1 rfl (hb C.2.1 hd) q
theorem go_bipush (C : Cx E Z own nm bytes mx rt) {i : Int} {z : Int32} (hd : decode bytes pc = .ok (.bipush i, 2)) (hz : (Int8.ofInt i).toInt32 = z) (hp : pc + 2 = pc') (H : Go E R n0 Q h k n pc' Ls (.int z :: st)) : Go E R n0 Q h k n pc Ls st := by
  subst hp hz; exact go_step H fun T locs t X _ q => XS.bipush X.here C.1 rfl (hb C.2.1 hd) q
theorem go_sipush (C : Cx E Z own nm bytes mx rt) {i : Int} {z : Int32} (hd : decode bytes pc = .ok (.sipush i, 3)) (hz : (Int16.ofInt i).toInt32 = z) (hp : pc + 3 = pc') (H : Go E R n0 Q h k n pc' Ls (.int z :: st)) : Go E R n0 Q h k n pc Ls st := by
  subst hp hz; exact go_step H fun T locs t X _ q => XS.sipush X.here C.1 rfl (hb C.2.1 hd) q
theorem go_aconstNull (C : Cx E Z own nm bytes mx rt) (hd : decode bytes pc = .ok (.aconst_null, 1)) (hp : pc + 1 = pc') (H : Go E R n0 Q h k n pc' Ls (.null :: st)) : Go E R n0 Q h k n pc Ls st := by
  subst hp; exact go_step H fun T locs t X _ q => XS.aconstNull X.here C.1 rfl (hb C.2.1 hd) q
theorem go_ldc (C : Cx E Z own nm bytes mx rt) {i : Nat} {z : Int32} (hd : decode bytes pc = .ok (.ldc i, 2)) (w1 : (Cond.constant own i z).before a0 Z = true) (hp : pc + 2 = pc') (H : Go E R n0 Q h k n pc' Ls (.int z :: st)) : Go E R n0 Q h k n pc Ls st := by
  subst hp; exact go_step H fun T locs t X _ q => X.ldcInt C.1 C.2.2.2.2.1 (mvT C.2.2.2.1 w1) (g := mkF _ pc Ls st) rfl (hb C.2.1 hd) t q
theorem go_ldc2L (C : Cx E Z own nm bytes mx rt) {i : Nat} {z : Int64} (hd : decode bytes pc = .ok (.ldc2_w i, 3)) (w1 : (Cond.constantLong own i z).before a0 Z = true) (hp : pc + 3 = pc') (H : Go E R n0 Q h k n pc' Ls (.long z :: st)) : Go E R n0 Q h k n pc Ls st := by
  subst hp; exact go_step H fun T locs t X _ q => X.ldc2Long C.1 C.2.2.2.2.1 (mvT C.2.2.2.1 w1) (g := mkF _ pc Ls st) rfl (hb C.2.1 hd) t q
theorem go_istoreN (C : Cx E Z own nm bytes mx rt) {i : Fin 4} {x : Int32} (hd : decode bytes pc = .ok (.istore_n i, 1)) (hl : storeLocals Ls i.val (.int x) = some Ls') (hp : pc + 1 = pc') (H : Go E R n0 Q h k n pc' Ls' st) : Go E R n0 Q h k n pc Ls (.int x :: st) := by
  subst hp; exact go_step H fun T locs t X _ q => XS.istoreN X.here C.1 rfl (hb C.2.1 hd) rfl hl q
theorem go_istore (C : Cx E Z own nm bytes mx rt) {i : Nat} {x : Int32} (hd : decode bytes pc = .ok (.istore i, 2)) (hl : storeLocals Ls i (.int x) = some Ls') (hp : pc + 2 = pc') (H : Go E R n0 Q h k n pc' Ls' st) : Go E R n0 Q h k n pc Ls (.int x :: st) := by
  subst hp; exact go_step H fun T locs t X _ q => XS.istore X.here C.1 rfl (hb C.2.1 hd) rfl hl q
theorem go_astoreN (C : Cx E Z own nm bytes mx rt) {i : Fin 4} {x : Value} (hd : decode bytes pc = .ok (.astore_n i, 1)) (hv : x.isRef = true) (hl : storeLocals Ls i.val x = some Ls') (hp : pc + 1 = pc') (H : Go E R n0 Q h k n pc' Ls' st) : Go E R n0 Q h k n pc Ls (x :: st) := by
  subst hp; exact go_step H fun T locs t X _ q => XS.astoreN X.here C.1 rfl (hb C.2.1 hd) rfl hv hl q
theorem go_astore (C : Cx E Z own nm bytes mx rt) {i : Nat} {x : Value} (hd : decode bytes pc = .ok (.astore i, 2)) (hv : x.isRef = true) (hl : storeLocals Ls i x = some Ls') (hp : pc + 2 = pc') (H : Go E R n0 Q h k n pc' Ls' st) : Go E R n0 Q h k n pc Ls (x :: st) := by
  subst hp; exact go_step H fun T locs t X _ q => XS.astore X.here C.1 rfl (hb C.2.1 hd) rfl hv hl q
theorem go_lstoreN (C : Cx E Z own nm bytes mx rt) {i : Fin 4} {x : Int64} (hd : decode bytes pc = .ok (.lstore_n i, 1)) (hl : storeLocals Ls i.val (.long x) = some Ls') (hp : pc + 1 = pc') (H : Go E R n0 Q h k n pc' Ls' st) : Go E R n0 Q h k n pc Ls (.long x :: st) := by
  subst hp; exact go_step H fun T locs t X _ q => XT.lstoreN X.here C.1 rfl (hb C.2.1 hd) rfl hl q
theorem go_lstore (C : Cx E Z own nm bytes mx rt) {i : Nat} {x : Int64} (hd : decode bytes pc = .ok (.lstore i, 2)) (hl : storeLocals Ls i (.long x) = some Ls') (hp : pc + 2 = pc') (H : Go E R n0 Q h k n pc' Ls' st) : Go E R n0 Q h k n pc Ls (.long x :: st) := by
  subst hp; exact go_step H fun T locs t X _ q => XT.lstore X.here C.1 rfl (hb C.2.1 hd) rfl hl q
theorem go_iinc (C : Cx E Z own nm bytes mx rt) {i : Nat} {d : Int} {x z : Int32} (hd : decode bytes pc = .ok (.iinc i d, 3)) (hl : Ls[i]? = some (.val (.int x))) (hz : Int32.ofInt d = z) (hl' : storeLocals Ls i (.int (x + z)) = some Ls') (hp : pc + 3 = pc') (H : Go E R n0 Q h k n pc' Ls' st) : Go E R n0 Q h k n pc Ls st := by
  subst hp hz; exact go_step H fun T locs t X _ q => XS.iinc X.here C.1 rfl (hb C.2.1 hd) hl hl' q
theorem go_dup (C : Cx E Z own nm bytes mx rt) {x : Value} (hd : decode bytes pc = .ok (.dup, 1)) (hc : x.category = 1) (hp : pc + 1 = pc') (H : Go E R n0 Q h k n pc' Ls (x :: x :: st)) : Go E R n0 Q h k n pc Ls (x :: st) := by
  subst hp; exact go_step H fun T locs t X _ q => XS.dup X.here C.1 rfl (hb C.2.1 hd) rfl hc q
theorem go_dupX1 (C : Cx E Z own nm bytes mx rt) {x y : Value} (hd : decode bytes pc = .ok (.dup_x1, 1)) (hc : x.category = 1) (hc' : y.category = 1) (hp : pc + 1 = pc') (H : Go E R n0 Q h k n pc' Ls (x :: y :: x :: st)) : Go E R n0 Q h k n pc Ls (x :: y :: st) := by
  subst hp; exact go_step H fun T locs t X _ q => XT.dupX1 X.here C.1 rfl (hb C.2.1 hd) rfl hc hc' q
theorem go_dup2 (C : Cx E Z own nm bytes mx rt) {x y : Value} (hd : decode bytes pc = .ok (.dup2, 1)) (hc : x.category = 1) (hc' : y.category = 1) (hp : pc + 1 = pc') (H : Go E R n0 Q h k n pc' Ls (x :: y :: x :: y :: st)) : Go E R n0 Q h k n pc Ls (x :: y :: st) := by
  subst hp; exact go_step H fun T locs t X _ q => XT.dup2 X.here C.1 rfl (hb C.2.1 hd) rfl hc hc' q
theorem go_pop (C : Cx E Z own nm bytes mx rt) {x : Value} (hd : decode bytes pc = .ok (.pop, 1)) (hc : x.category = 1) (hp : pc + 1 = pc') (H : Go E R n0 Q h k n pc' Ls st) : Go E R n0 Q h k n pc Ls (x :: st) := by
  subst hp; exact go_step H fun T locs t X _ q => XT.pop X.here C.1 rfl (hb C.2.1 hd) rfl hc q
theorem go_iadd (C : Cx E Z own nm bytes mx rt) {x y : Int32} (hd : decode bytes pc = .ok (.iadd, 1)) (hp : pc + 1 = pc') (H : Go E R n0 Q h k n pc' Ls (.int (x + y) :: st)) : Go E R n0 Q h k n pc Ls (.int y :: .int x :: st) := by
  subst hp; exact go_step H fun T locs t X _ q => XS.iadd X.here C.1 rfl (hb C.2.1 hd) rfl q
theorem go_isub (C : Cx E Z own nm bytes mx rt) {x y : Int32} (hd : decode bytes pc = .ok (.isub, 1)) (hp : pc + 1 = pc') (H : Go E R n0 Q h k n pc' Ls (.int (x - y) :: st)) : Go E R n0 Q h k n pc Ls (.int y :: .int x :: st) := by
  subst hp; exact go_step H fun T locs t X _ q => XS.isub X.here C.1 rfl (hb C.2.1 hd) rfl q
theorem go_imul (C : Cx E Z own nm bytes mx rt) {x y : Int32} (hd : decode bytes pc = .ok (.imul, 1)) (hp : pc + 1 = pc') (H : Go E R n0 Q h k n pc' Ls (.int (x * y) :: st)) : Go E R n0 Q h k n pc Ls (.int y :: .int x :: st) := by
  subst hp; exact go_step H fun T locs t X _ q => XS.imul X.here C.1 rfl (hb C.2.1 hd) rfl q
theorem go_irem (C : Cx E Z own nm bytes mx rt) {x y : Int32} (hd : decode bytes pc = .ok (.irem, 1)) (hy : y ≠ 0) (hp : pc + 1 = pc') (H : Go E R n0 Q h k n pc' Ls (.int (x % y) :: st)) : Go E R n0 Q h k n pc Ls (.int y :: .int x :: st) := by
  subst hp; exact go_step H fun T locs t X _ q => iremM X C.1 rfl (hb C.2.1 hd) rfl hy q
theorem go_iand (C : Cx E Z own nm bytes mx rt) {x y : Int32} (hd : decode bytes pc = .ok (.iand, 1)) (hp : pc + 1 = pc') (H : Go E R n0 Q h k n pc' Ls (.int (x &&& y) :: st)) : Go E R n0 Q h k n pc Ls (.int y :: .int x :: st) := by
  subst hp; exact go_step H fun T locs t X _ q => XS.iand X.here C.1 rfl (hb C.2.1 hd) rfl q
theorem go_ior (C : Cx E Z own nm bytes mx rt) {x y : Int32} (hd : decode bytes pc = .ok (.ior, 1)) (hp : pc + 1 = pc') (H : Go E R n0 Q h k n pc' Ls (.int (x ||| y) :: st)) : Go E R n0 Q h k n pc Ls (.int y :: .int x :: st) := by
  subst hp; exact go_step H fun T locs t X _ q => XT.ior X.here C.1 rfl (hb C.2.1 hd) rfl q
theorem go_ishl (C : Cx E Z own nm bytes mx rt) {x y : Int32} (hd : decode bytes pc = .ok (.ishl, 1)) (hp : pc + 1 = pc') (H : Go E R n0 Q h k n pc' Ls (.int (x <<< (y &&& 31)) :: st)) : Go E R n0 Q h k n pc Ls (.int y :: .int x :: st) := by
  subst hp; exact go_step H fun T locs t X _ q => XT.ishl X.here C.1 rfl (hb C.2.1 hd) rfl q
theorem go_ishr (C : Cx E Z own nm bytes mx rt) {x y : Int32} (hd : decode bytes pc = .ok (.ishr, 1)) (hp : pc + 1 = pc') (H : Go E R n0 Q h k n pc' Ls (.int (x >>> (y &&& 31)) :: st)) : Go E R n0 Q h k n pc Ls (.int y :: .int x :: st) := by
  subst hp; exact go_step H fun T locs t X _ q => XT.ishr X.here C.1 rfl (hb C.2.1 hd) rfl q
theorem go_iushr (C : Cx E Z own nm bytes mx rt) {x y : Int32} (hd : decode bytes pc = .ok (.iushr, 1)) (hp : pc + 1 = pc') (H : Go E R n0 Q h k n pc' Ls (.int (XT.ushr x y) :: st)) : Go E R n0 Q h k n pc Ls (.int y :: .int x :: st) := by
  subst hp; exact go_step H fun T locs t X _ q => XT.iushr X.here C.1 rfl (hb C.2.1 hd) rfl q
theorem go_lmul (C : Cx E Z own nm bytes mx rt) {x y : Int64} (hd : decode bytes pc = .ok (.lmul, 1)) (hp : pc + 1 = pc') (H : Go E R n0 Q h k n pc' Ls (.long (x * y) :: st)) : Go E R n0 Q h k n pc Ls (.long y :: .long x :: st) := by
  subst hp; exact go_step H fun T locs t X _ q => XT.lmul X.here C.1 rfl (hb C.2.1 hd) rfl q
theorem go_land (C : Cx E Z own nm bytes mx rt) {x y : Int64} (hd : decode bytes pc = .ok (.land, 1)) (hp : pc + 1 = pc') (H : Go E R n0 Q h k n pc' Ls (.long (x &&& y) :: st)) : Go E R n0 Q h k n pc Ls (.long y :: .long x :: st) := by
  subst hp; exact go_step H fun T locs t X _ q => XT.land X.here C.1 rfl (hb C.2.1 hd) rfl q
theorem go_lushr (C : Cx E Z own nm bytes mx rt) {x : Int64} {y : Int32} (hd : decode bytes pc = .ok (.lushr, 1)) (hp : pc + 1 = pc') (H : Go E R n0 Q h k n pc' Ls (.long (XT.ushrL x y) :: st)) : Go E R n0 Q h k n pc Ls (.int y :: .long x :: st) := by
  subst hp; exact go_step H fun T locs t X _ q => XT.lushr X.here C.1 rfl (hb C.2.1 hd) rfl q
theorem go_ldiv (C : Cx E Z own nm bytes mx rt) {x y : Int64} (hd : decode bytes pc = .ok (.ldiv, 1)) (hy : y ≠ 0) (hp : pc + 1 = pc') (H : Go E R n0 Q h k n pc' Ls (.long (x / y) :: st)) : Go E R n0 Q h k n pc Ls (.long y :: .long x :: st) := by
  subst hp; exact go_step H fun T locs t X _ q => XT.ldiv X.here C.1 rfl (hb C.2.1 hd) rfl hy q
theorem go_lrem (C : Cx E Z own nm bytes mx rt) {x y : Int64} (hd : decode bytes pc = .ok (.lrem, 1)) (hy : y ≠ 0) (hp : pc + 1 = pc') (H : Go E R n0 Q h k n pc' Ls (.long (x % y) :: st)) : Go E R n0 Q h k n pc Ls (.long y :: .long x :: st) := by
  subst hp; rw [← lrem_mod] at H; exact go_step H fun T locs t X _ q => XT.lrem X.here C.1 rfl (hb C.2.1 hd) rfl hy q
theorem go_i2l (C : Cx E Z own nm bytes mx rt) {x : Int32} (hd : decode bytes pc = .ok (.i2l, 1)) (hp : pc + 1 = pc') (H : Go E R n0 Q h k n pc' Ls (.long x.toInt64 :: st)) : Go E R n0 Q h k n pc Ls (.int x :: st) := by
  subst hp; exact go_step H fun T locs t X _ q => XT.i2l X.here C.1 rfl (hb C.2.1 hd) rfl q
theorem go_lcmp (C : Cx E Z own nm bytes mx rt) {x y : Int64} (hd : decode bytes pc = .ok (.lcmp, 1)) (hp : pc + 1 = pc') (H : Go E R n0 Q h k n pc' Ls (.int (XT.cmpL x y) :: st)) : Go E R n0 Q h k n pc Ls (.long y :: .long x :: st) := by
  subst hp; exact go_step H fun T locs t X _ q => XT.lcmp X.here C.1 rfl (hb C.2.1 hd) rfl q
theorem go_goto (C : Cx E Z own nm bytes mx rt) {o : Int} (hd : decode bytes pc = .ok (.goto o, 3)) (ho : 0 ≤ (pc : Int) + o) (hp : ((pc : Int) + o).toNat = pc') (H : Go E R n0 Q h k n pc' Ls st) : Go E R n0 Q h k n pc Ls st :=
  go_step H fun T locs t X _ q => XS.goto X.here C.1 rfl rfl (hb C.2.1 hd) ho hp q
theorem go_ifY (C : Cx E Z own nm bytes mx rt) {cd : ClassFile.Cond} {x : Int32} {o : Int} (hd : decode bytes pc = .ok (.ifCond cd o, 3)) (hc : ifCond.holds cd x = true) (ho : 0 ≤ (pc : Int) + o) (hp : ((pc : Int) + o).toNat = pc') (H : Go E R n0 Q h k n pc' Ls st) : Go E R n0 Q h k n pc Ls (.int x :: st) :=
  go_step H fun T locs t X _ q => XS.ifYes X.here C.1 rfl rfl (hb C.2.1 hd) rfl hc ho hp q
theorem go_ifN (C : Cx E Z own nm bytes mx rt) {cd : ClassFile.Cond} {x : Int32} {o : Int} (hd : decode bytes pc = .ok (.ifCond cd o, 3)) (hc : ifCond.holds cd x = false) (hp : pc + 3 = pc') (H : Go E R n0 Q h k n pc' Ls st) : Go E R n0 Q h k n pc Ls (.int x :: st) := by
  subst hp; exact go_step H fun T locs t X _ q => XS.ifNo X.here C.1 rfl (hb C.2.1 hd) rfl hc q
theorem go_icY (C : Cx E Z own nm bytes mx rt) {cd : ClassFile.Cond} {x y : Int32} {o : Int} (hd : decode bytes pc = .ok (.if_icmp cd o, 3)) (hc : if_icmp.holds cd x y = true) (ho : 0 ≤ (pc : Int) + o) (hp : ((pc : Int) + o).toNat = pc') (H : Go E R n0 Q h k n pc' Ls st) : Go E R n0 Q h k n pc Ls (.int y :: .int x :: st) :=
  go_step H fun T locs t X _ q => XS.icmpYes X.here C.1 rfl rfl (hb C.2.1 hd) rfl hc ho hp q
theorem go_icN (C : Cx E Z own nm bytes mx rt) {cd : ClassFile.Cond} {x y : Int32} {o : Int} (hd : decode bytes pc = .ok (.if_icmp cd o, 3)) (hc : if_icmp.holds cd x y = false) (hp : pc + 3 = pc') (H : Go E R n0 Q h k n pc' Ls st) : Go E R n0 Q h k n pc Ls (.int y :: .int x :: st) := by
  subst hp; exact go_step H fun T locs t X _ q => XS.icmpNo X.here C.1 rfl (hb C.2.1 hd) rfl hc q
/-- what a comparison asks, as a proposition -/
def rel : ClassFile.Cond → Int32 → Int32 → Prop
  | .eq, x, y => x.toInt = y.toInt
  | .ne, x, y => ¬ x.toInt = y.toInt
  | .lt, x, y => x.toInt < y.toInt
  | .ge, x, y => y.toInt ≤ x.toInt
  | .gt, x, y => y.toInt < x.toInt
  | .le, x, y => x.toInt ≤ y.toInt
theorem rel_holds (cd : ClassFile.Cond) (x y : Int32) : if_icmp.holds cd x y = true ↔ rel cd x y := by
  cases cd <;> simp [if_icmp.holds, rel, Int32.lt_iff_toInt_lt, Int32.le_iff_toInt_le, Int32.toInt_inj]
theorem rel_holds0 (cd : ClassFile.Cond) (x : Int32) : ifCond.holds cd x = true ↔ rel cd x 0 := by rw [if0]; exact rel_holds cd x 0
/-- both ways of a comparison -/
theorem go_ic (C : Cx E Z own nm bytes mx rt) {cd : ClassFile.Cond} {x y : Int32} {o : Int} {pcY pcN : Nat} (hd : decode bytes pc = .ok (.if_icmp cd o, 3)) (ho : 0 ≤ (pc : Int) + o) (hpY : ((pc : Int) + o).toNat = pcY) (hpN : pc + 3 = pcN)
    (HY : rel cd x y → Go E R n0 Q h k n pcY Ls st) (HN : ¬ rel cd x y → Go E R n0 Q h k n pcN Ls st) : Go E R n0 Q h k n pc Ls (.int y :: .int x :: st) := by
  cases q : if_icmp.holds cd x y with
  | true => exact go_icY C hd q ho hpY (HY ((rel_holds cd x y).mp q))
  | false => exact go_icN C hd q hpN (HN fun r => by rw [(rel_holds cd x y).mpr r] at q; cases q)
theorem go_if (C : Cx E Z own nm bytes mx rt) {cd : ClassFile.Cond} {x : Int32} {o : Int} {pcY pcN : Nat} (hd : decode bytes pc = .ok (.ifCond cd o, 3)) (ho : 0 ≤ (pc : Int) + o) (hpY : ((pc : Int) + o).toNat = pcY) (hpN : pc + 3 = pcN)
    (HY : rel cd x 0 → Go E R n0 Q h k n pcY Ls st) (HN : ¬ rel cd x 0 → Go E R n0 Q h k n pcN Ls st) : Go E R n0 Q h k n pc Ls (.int x :: st) := by
  cases q : ifCond.holds cd x with
  | true => exact go_ifY C hd q ho hpY (HY ((rel_holds0 cd x).mp q))
  | false => exact go_ifN C hd q hpN (HN fun r => by rw [(rel_holds0 cd x).mpr r] at q; cases q)
/-! the ends -/
theorem go_end {v : Option Value} (hr : ∀ T locs, Sd E R T locs k n → ∀ fs, (∀ (f : JFrame) (acts : List Action), f.method = E.2.2.2.2.1 → f.locked = none → f.entered = [] → (doReturn E.2.2.1 (T.setTop f) acts v).1 = T.setFrames fs) → Sp E (T.setTop (mkF E.2.2.2.2.1 pc Ls st)) (T.setFrames fs))
    (hlk : E.2.2.2.2.2.2.2.1.locks = false) (hv : E.2.2.2.2.2.2.2.1.sig.returnType = none → v = none) (hk : k ≤ R.cells) (hn : n ≤ R.slots) (hQ : Q v h) : Go E R n0 Q h k n pc Ls st := fun T locs X hh N => by
  obtain ⟨fs, q1, q2, q3, q4, q5⟩ := X.leave (v := v) hv hlk
  exact ⟨_, _, hr T locs X fs q1, q2, q3, _, _, rfl, ⟨by show Q v T.heap; rw [hh]; exact hQ, N⟩, ⟨_, rfl⟩, q4, q5.mono hk hn⟩
theorem go_retI (C : Cx E Z own nm bytes mx (some .int)) {z : Int32} (hd : decode bytes pc = .ok (.ireturn, 1)) (hk : k ≤ R.cells) (hn : n ≤ R.slots) (hQ : Q (some (.int z)) h) : Go E R n0 Q h k n pc Ls (.int z :: st) :=
  go_end (fun T locs X fs hl => retOut X C.1 (w := .int z) (t := .int) C.2.2.2.2.2.1 rfl (Or.inl ⟨rfl, Or.inl rfl, _, rfl⟩) (hb C.2.1 hd) hl) C.2.2.2.2.2.2.1 (fun q => by rw [C.2.2.2.2.2.1] at q; cases q) hk hn hQ
theorem go_retZ (C : Cx E Z own nm bytes mx (some .boolean)) {z : Int32} (hd : decode bytes pc = .ok (.ireturn, 1)) (hz : z = 0 ∨ z = 1) (hk : k ≤ R.cells) (hn : n ≤ R.slots) (hQ : Q (some (.int z)) h) : Go E R n0 Q h k n pc Ls (.int z :: st) :=
  go_end (fun T locs X fs hl => retOut X C.1 (w := .int z) (t := .boolean) C.2.2.2.2.2.1 (by rcases hz with rfl | rfl <;> rfl) (Or.inl ⟨rfl, Or.inr (Or.inl rfl), _, rfl⟩) (hb C.2.1 hd) hl) C.2.2.2.2.2.2.1 (fun q => by rw [C.2.2.2.2.2.1] at q; cases q) hk hn hQ
theorem go_retL (C : Cx E Z own nm bytes mx (some .long)) {z : Int64} (hd : decode bytes pc = .ok (.lreturn, 1)) (hk : k ≤ R.cells) (hn : n ≤ R.slots) (hQ : Q (some (.long z)) h) : Go E R n0 Q h k n pc Ls (.long z :: st) :=
  go_end (fun T locs X fs hl => retOut X C.1 (w := .long z) (t := .long) C.2.2.2.2.2.1 rfl (Or.inr (Or.inl ⟨rfl, rfl, _, rfl⟩)) (hb C.2.1 hd) hl) C.2.2.2.2.2.2.1 (fun q => by rw [C.2.2.2.2.2.1] at q; cases q) hk hn hQ
theorem go_retA {t : FieldType} (C : Cx E Z own nm bytes mx (some t)) {w : Value} (hd : decode bytes pc = .ok (.areturn, 1)) (ht : t.isReference = true) (hw : w.isRef = true) (hnw : narrow t w = w) (hk : k ≤ R.cells) (hn : n ≤ R.slots) (hQ : Q (some w) h) : Go E R n0 Q h k n pc Ls (w :: st) :=
  go_end (fun T locs X fs hl => retOut X C.1 (w := w) (t := t) C.2.2.2.2.2.1 hnw (Or.inr (Or.inr (Or.inr (Or.inr ⟨rfl, ht, hw⟩)))) (hb C.2.1 hd) hl) C.2.2.2.2.2.2.1 (fun q => by rw [C.2.2.2.2.2.1] at q; cases q) hk hn hQ
theorem go_retV (C : Cx E Z own nm bytes mx none) (hd : decode bytes pc = .ok (.return_, 1)) (hk : k ≤ R.cells) (hn : n ≤ R.slots) (hQ : Q none h) : Go E R n0 Q h k n pc Ls [] :=
  go_end (fun T locs X fs hl => X.returnOut C.1 C.2.2.2.2.2.1 (hb C.2.1 hd) hl) C.2.2.2.2.2.2.1 (fun _ => rfl) hk hn hQ
/-! calls -/
theorem go_callS (C : Cx E Z own nm bytes mx rt) {i : Nat} {y : MethodName} {by' : ByteArray} {mx' : Nat} {rt' : Option FieldType} {rm : Room} {Qc : Option Value → Heap → Prop} {argsL : List Value}
    (w1 : (Cond.methodLink own i y).before a0 Z = true) (w2 : (Cond.static y).before a0 Z = true) (w3 : (Cond.initialized y.cls).before a0 Z = true) (w4 : (Cond.code y by' mx' rt').before a0 Z = true)
    (hM : Met Z y by' mx' rt' rm argsL.toArray h n0 Qc) (hd : decode bytes pc = .ok (.invokestatic i, 3)) (hsz : Ls.size = mx) (hst : st = argsL.reverse ++ rest)
    (hlen : ∀ sig, parseMethodDescriptor y.desc = some sig → argsL.length = sig.parameters.length) (hy : y.cls ≠ "java/lang/invoke/MethodHandle" ∧ y.cls ≠ "java/lang/invoke/VarHandle")
    (hfr : rm.frames + 1 ≤ R.frames) (W : Nat) (hW : (rest.map fun v => v.category).sum = W) (hlo : W + (mx' + 11) + rm.locals ≤ R.locals) {k' n' : Nat} (hk' : k + rm.cells = k') (hn' : n + rm.slots = n') (hc : k' ≤ R.cells) (hs : n' ≤ R.slots) (hp : pc + 3 = pc')
    (H : ∀ v h', Qc v h' → Go E R n0 Q h' k' n' pc' Ls (v.toList ++ rest)) : Go E R n0 Q h k n pc Ls st := fun T locs X hh N => by
  subst hp hW hk' hn'
  obtain ⟨v, vm, ⟨T', L', k', n'⟩, -, X', ⟨Lc, hQc, l1, y1, z1⟩, stp⟩ := Jvm.LawKit.callS X C.1 (y := y) C.2.2.2.2.1 (mvT C.2.2.2.1 w1) (mvT C.2.2.2.1 w2) (mvT C.2.2.2.1 w3) (mvT C.2.2.2.1 w4) hy
    (backOf (Q := fun v h L => Qc v h ∧ Fr n0 L) (W := (rest.map fun v => v.category).sum) (hM E.2.1 []) C.2.2.2.1 w4 w3 hfr hlo) (g := mkF E.2.2.2.2.1 pc Ls st) rfl (hsz.trans C.2.2.1.symm) (argsL := argsL) (rest := rest) hlen hst (by show 2 * 0 + _ ≤ _; omega) (hb C.2.1 hd) (fun _ _ => ⟨rfl, hh, hc, hs⟩)
  dsimp only [Pt.U, Pt.locs, Pt.cells, Pt.slots] at X' l1 y1 z1 stp hQc
  subst l1 y1 z1
  obtain ⟨s₂, o, q1, q⟩ := H v _ hQc.1 T' _ X' rfl (Fr.app N hQc.2)
  exact ⟨s₂, o, stp _ q1, q⟩
theorem go_callC (C : Cx E Z own nm bytes mx rt) {i : Nat} {y : MethodName} {by' : ByteArray} {mx' : Nat} {rm : Room} {Qc : Option Value → Heap → Prop} {argsL : List Value} {a : Nat}
    (w1 : (Cond.methodLink own i y).before a0 Z = true) (w2 : (Cond.instanceMethod y).before a0 Z = true) (w3 : (Cond.initialized y.cls).before a0 Z = true) (w4 : (Cond.code y by' mx' none).before a0 Z = true) (hni : y.name = "<init>")
    (hM : Met Z y by' mx' none rm (.ref a :: argsL).toArray h n0 Qc) (hd : decode bytes pc = .ok (.invokespecial i, 3)) (hsz : Ls.size = mx) (hst : st = argsL.reverse ++ .ref a :: rest)
    (hlen : ∀ sig, parseMethodDescriptor y.desc = some sig → argsL.length = sig.parameters.length) (hy : y.cls ≠ "java/lang/invoke/MethodHandle" ∧ y.cls ≠ "java/lang/invoke/VarHandle")
    (hfr : rm.frames + 1 ≤ R.frames) (W : Nat) (hW : (rest.map fun v => v.category).sum = W) (hlo : W + (mx' + 11) + rm.locals ≤ R.locals) {k' n' : Nat} (hk' : k + rm.cells = k') (hn' : n + rm.slots = n') (hc : k' ≤ R.cells) (hs : n' ≤ R.slots) (hp : pc + 3 = pc')
    (H : ∀ v h', Qc v h' → Go E R n0 Q h' k' n' pc' Ls (v.toList ++ rest)) : Go E R n0 Q h k n pc Ls st := fun T locs X hh N => by
  subst hp hW hk' hn'
  obtain ⟨v, vm, ⟨T', L', k', n'⟩, -, X', ⟨Lc, hQc, l1, y1, z1⟩, stp⟩ := X.specialBack C.1 (y := y) hni C.2.2.2.2.1 (mvT C.2.2.2.1 w1) (mvT C.2.2.2.1 w2) (mvT C.2.2.2.1 w4) hy
    (backOf (Q := fun v h L => Qc v h ∧ Fr n0 L) (W := (rest.map fun v => v.category).sum) (hM E.2.1 []) C.2.2.2.1 w4 w3 hfr hlo) (g := mkF E.2.2.2.2.1 pc Ls st) rfl (hsz.trans C.2.2.1.symm) (Steps.refl _) (a := a) (argsL := argsL) (rest := rest) hlen hst (by show 2 * 0 + _ ≤ _; omega) (hb C.2.1 hd) (fun _ _ => ⟨rfl, hh, hc, hs⟩)
  dsimp only [Pt.U, Pt.locs, Pt.cells, Pt.slots] at X' l1 y1 z1 stp hQc
  subst l1 y1 z1
  obtain ⟨s₂, o, q1, q⟩ := H v _ hQc.1 T' _ X' rfl (Fr.app N hQc.2)
  exact ⟨s₂, o, stp.trans q1, q⟩
theorem go_callV (C : Cx E Z own nm bytes mx rt) {i : Nat} {y : MethodName} {by' : ByteArray} {mx' : Nat} {rt' : Option FieldType} {rm : Room} {Qc : Option Value → Heap → Prop} {argsL : List Value} {a : Nat} {K : String}
    (w1 : (Cond.methodLink own i y).before a0 Z = true) (w2 : (Cond.declares y).before a0 Z = true) (w3 : (Cond.selects K y y).before a0 Z = true) (w4 : (Cond.instanceMethod y).before a0 Z = true) (w5 : (Cond.initialized y.cls).before a0 Z = true) (w6 : (Cond.code y by' mx' rt').before a0 Z = true)
    (hE : Exa Z h a K) (hM : Met Z y by' mx' rt' rm (.ref a :: argsL).toArray h n0 Qc) (hd : decode bytes pc = .ok (.invokevirtual i, 3)) (hsz : Ls.size = mx) (hst : st = argsL.reverse ++ .ref a :: rest)
    (hlen : ∀ sig, parseMethodDescriptor y.desc = some sig → argsL.length = sig.parameters.length) (hy : y.cls ≠ "java/lang/invoke/MethodHandle" ∧ y.cls ≠ "java/lang/invoke/VarHandle")
    (hfr : rm.frames + 1 ≤ R.frames) (W : Nat) (hW : (rest.map fun v => v.category).sum = W) (hlo : W + (mx' + 11) + rm.locals ≤ R.locals) {k' n' : Nat} (hk' : k + rm.cells = k') (hn' : n + rm.slots = n') (hc : k' ≤ R.cells) (hs : n' ≤ R.slots) (hp : pc + 3 = pc')
    (H : ∀ v h', Qc v h' → Go E R n0 Q h' k' n' pc' Ls (v.toList ++ rest)) : Go E R n0 Q h k n pc Ls st := fun T locs X hh N => by
  subst hp hW hk' hn'
  obtain ⟨cq, kq, qa, qb, qc⟩ := isOf C.2.2.2.1 hh hE
  obtain ⟨v, vm, ⟨T', L', k', n'⟩, -, X', ⟨Lc, hQc, l1, y1, z1⟩, stp⟩ := X.virtualBack C.1 (y := y) (z := y) C.2.2.2.2.1 (mvT C.2.2.2.1 w1) (mvT C.2.2.2.1 w2) (notFace_of_selects (args := #[]) (mvT C.2.2.2.1 w3)) (mvT C.2.2.2.1 w3) (mvT C.2.2.2.1 w4) hy
    (backOf (Q := fun v h L => Qc v h ∧ Fr n0 L) (W := (rest.map fun v => v.category).sum) (hM E.2.1 []) C.2.2.2.1 w6 w5 hfr hlo) qa qc (g := mkF E.2.2.2.2.1 pc Ls st) rfl (hsz.trans C.2.2.1.symm) (Steps.refl _) (argsL := argsL) (rest := rest) hlen hst (by show 2 * 0 + _ ≤ _; omega) (hb C.2.1 hd) (fun _ _ => ⟨rfl, hh, hc, hs⟩)
  dsimp only [Pt.U, Pt.locs, Pt.cells, Pt.slots] at X' l1 y1 z1 stp hQc
  subst l1 y1 z1
  obtain ⟨s₂, o, q1, q⟩ := H v _ hQc.1 T' _ X' rfl (Fr.app N hQc.2)
  exact ⟨s₂, o, stp.trans q1, q⟩
/-! objects and fields -/
theorem go_newO (C : Cx E Z own nm bytes mx rt) {i cnt : Nat} {K : String} (w1 : (Cond.classLink own i K).before a0 Z = true) (w2 : (Cond.instantiable K cnt).before a0 Z = true) (w3 : (Cond.initialized K).before a0 Z = true) (hd : decode bytes pc = .ok (.new i, 3)) {k' n' : Nat} (hk' : k + 1 = k') (hn' : n + cnt = n') (hc : k' ≤ R.cells) (hs : n' ≤ R.slots) (hp : pc + 3 = pc')
    (H : ∀ h', Ext h h' → Exa Z h' h.size K → (∀ {O f d : String} {ty : FieldType}, Laid Z a0 K O f d → parseFieldDescriptor d = some ty → Fld Z h' h.size O f d (defaultValue ty)) → Go E R n0 Q h' k' n' pc' Ls (.ref h.size :: st)) : Go E R n0 Q h k n pc Ls st := fun T locs X hh N => by
  subst hp hk' hn'
  obtain ⟨T', h', X', e', e2, A2, D2, -, stp⟩ := newO X C.1 C.2.2.2.1 C.2.2.2.2.1 w1 w2 w3 hh (g := mkF E.2.2.2.2.1 pc Ls st) rfl (hb C.2.1 hd) hc hs
  obtain ⟨s₂, o, q1, q⟩ := H h' e2 A2 D2 T' _ X' e' N
  exact ⟨s₂, o, stp _ q1, q⟩
theorem go_getF (C : Cx E Z own nm bytes mx rt) {i : Nat} {a : Nat} {O f d : String} {v : Value} (w1 : (Cond.fieldLink own i O f d).before a0 Z = true) (F : Fld Z h a O f d v) (hd : decode bytes pc = .ok (.getfield i, 3)) (hp : pc + 3 = pc') (H : Go E R n0 Q h k n pc' Ls (v :: st)) : Go E R n0 Q h k n pc Ls (.ref a :: st) := fun T locs X hh N => by
  subst hp
  obtain ⟨T', X', e', stp⟩ := getF X C.1 C.2.2.2.1 C.2.2.2.2.1 (host := "") (Or.inl w1) Via.refl hh F (g := mkF E.2.2.2.2.1 pc Ls (.ref a :: st)) rfl rfl (hb C.2.1 hd)
  obtain ⟨s₂, o, q1, q⟩ := H T' _ X' e' N
  exact ⟨s₂, o, stp _ q1, q⟩
theorem go_putF (C : Cx E Z own nm bytes mx rt) {i kk : Nat} {a : Nat} {O f d K : String} {v old : Value} {ty : FieldType} (w1 : (Cond.fieldLink own i O f d).before a0 Z = true) (F : Fld Z h a O f d old) (A : Exa Z h a K) (L : (Cond.lays K O f d).before a0 Z = true ∨ ((Cond.laysFinal K O f d).before a0 Z = true ∧ own = O ∧ nm = "<init>")) (wi : (Cond.instantiable K kk).before a0 Z = true)
    (hty : parseFieldDescriptor d = some ty) (hnw : narrow ty v = v) (hf : fits ty v = true) (ge : n0 ≤ a) (hd : decode bytes pc = .ok (.putfield i, 3)) (hp : pc + 3 = pc') (H : ∀ h', Wr h h' a (Jvm.RoadKit.slotOf Z O f d) v → Go E R n0 Q h' k n pc' Ls st) : Go E R n0 Q h k n pc Ls (v :: .ref a :: st) := fun T locs X hh N => by
  subst hp
  obtain ⟨T', h', X', e', W, stp⟩ := putF X C.1 C.2.2.2.1 C.2.2.2.2.1 (host := "") (Or.inl w1) Via.refl hh F A (L.imp id fun q => ⟨q.1, q.2.1, C.2.2.2.2.2.2.2.trans q.2.2⟩) wi hty hnw hf (g := mkF E.2.2.2.2.1 pc Ls (v :: .ref a :: st)) rfl rfl (hb C.2.1 hd)
  obtain ⟨s₂, o, q1, q⟩ := H h' W T' _ X' e' (Fr.snoc X' N ge)
  exact ⟨s₂, o, stp _ q1, q⟩
theorem go_getS (C : Cx E Z own nm bytes mx rt) {i : Nat} {O f d : String} {v : Value} (w1 : (Cond.fieldLink own i O f d).before a0 Z = true) (F : Sta Z h O f d v) (hd : decode bytes pc = .ok (.getstatic i, 3)) (hp : pc + 3 = pc') (H : Go E R n0 Q h k n pc' Ls (v :: st)) : Go E R n0 Q h k n pc Ls st := fun T locs X hh N => by
  subst hp
  obtain ⟨T', X', e', stp⟩ := getS X C.1 C.2.2.2.1 C.2.2.2.2.1 (host := "") w1 Via.refl hh F (g := mkF E.2.2.2.2.1 pc Ls st) rfl (hb C.2.1 hd)
  obtain ⟨s₂, o, q1, q⟩ := H T' _ X' e' N
  exact ⟨s₂, o, stp _ q1, q⟩
theorem sta_keep {h' : Heap} {O f d : String} {v : Value} {ws : List Nat} (F : Sta Z h O f d v) (K : Keep h h' ws) (q : ∀ x ∈ ws, ∃ D, Exa Z h x D) : Sta Z h' O f d v := by
  obtain ⟨cf, i, k, f, st, cell, h1, h2, h3, h4, h5, h6, h7⟩ := F
  refine ⟨cf, i, k, f, st, cell, h1, h2, h3, h4, K.2.1 st cell h5 (fun hm => ?_), h6, h7⟩
  obtain ⟨D, c, k', e1, -, -, e4, -⟩ := q st hm
  cases e1.symm.trans h5
  rw [h6] at e4; cases e4
/-! arrays -/
theorem go_newP (C : Cx E Z own nm bytes mx rt) {aty : ArrayType} {z : Int32} {cap : Nat} (w1 : (Cond.arrayClass (newarray.typeOf aty)).before a0 Z = true) (hd : decode bytes pc = .ok (.newarray aty, 2)) (hn : ¬ z < 0) (hcap : z.toNatClampNeg ≤ cap) (hb8 : cap * 8 ≤ 536870912) {k' n' : Nat} (hk' : k + 1 = k') (hn' : n + cap = n') (hc : k' ≤ R.cells) (hs : n' ≤ R.slots) (hp : pc + 2 = pc')
    (H : ∀ h' cA, Ext h h' → Arr Z h' h.size (newA cA (newarray.typeOf aty) z) (newarray.typeOf aty) → Go E R n0 Q h' k' n' pc' Ls (.ref h.size :: st)) : Go E R n0 Q h k n pc Ls (.int z :: st) := fun T locs X hh N => by
  subst hp hk' hn'
  obtain ⟨T', h', cA, X', e', e2, A2, stp⟩ := newP X C.1 C.2.2.2.1 w1 hh (g := mkF E.2.2.2.2.1 pc Ls (.int z :: st)) rfl (hb C.2.1 hd) rfl hn hcap hb8 hc hs
  obtain ⟨s₂, o, q1, q⟩ := H h' cA e2 A2 T' _ X' e' N
  exact ⟨s₂, o, stp _ q1, q⟩
/-- an array of ints (or bytes, or booleans) by its list -/
def Ai (Z : State) (h : Heap) (a : Nat) (ty : FieldType) (xs : List Int32) : Prop := ∃ c : Cell, Arr Z h a c ty ∧ c.slots = (xs.map Value.int).toArray ∧ xs.length < 2 ^ 31
theorem Ai.lt {a : Nat} {ty : FieldType} {xs : List Int32} (F : Ai Z h a ty xs) : a < h.size := by obtain ⟨c, A, -⟩ := F; exact A.lt
theorem Ai.ext {h' : Heap} {a : Nat} {ty : FieldType} {xs : List Int32} (F : Ai Z h a ty xs) (e : Ext h h') : Ai Z h' a ty xs := by obtain ⟨c, A, r⟩ := F; exact ⟨c, A.ext e, r⟩
theorem Ai.other {h' : Heap} {a b : Nat} {sl : Nat} {v : Value} {ty : FieldType} {xs : List Int32} (F : Ai Z h b ty xs) (W : Wr h h' a sl v) (q : b ≠ a) : Ai Z h' b ty xs := by obtain ⟨c, A, r⟩ := F; exact ⟨c, A.other W q, r⟩
theorem Ai.keep {h' : Heap} {a : Nat} {ws : List Nat} {ty : FieldType} {xs : List Int32} (F : Ai Z h a ty xs) (K : Keep h h' ws) (q : a ∉ ws) : Ai Z h' a ty xs := by obtain ⟨c, A, r⟩ := F; exact ⟨c, ⟨K.2.1 a c A.1 q, A.2⟩, r⟩
theorem Ai.set {h' : Heap} {a : Nat} {i : Nat} {v : Int32} {ty : FieldType} {xs : List Int32} (F : Ai Z h a ty xs) (W : Wr h h' a i (.int v)) : Ai Z h' a ty (xs.set i v) := by
  obtain ⟨c, A, r, q⟩ := F
  refine ⟨_, A.same W, ?_, by simpa using q⟩
  show c.slots.setIfInBounds i (.int v) = _
  rw [r]; apply Array.toList_inj.mp; simp [List.map_set]
theorem Ai.new {cA : ClassId} {a : Nat} {z : Int32} {ty : FieldType} (A : Arr Z h a (newA cA ty z) ty) (hz : ¬ z < 0) (hd : defaultValue ty = .int 0) : Ai Z h a ty (List.replicate z.toNatClampNeg 0) := by
  refine ⟨_, A, ?_, by simpa using (back32 hz).2⟩
  show Array.replicate z.toNatClampNeg (defaultValue ty) = _
  rw [hd]; apply Array.toList_inj.mp; simp
theorem Ai.bound {c : Cell} {xs : List Int32} {j : Int32} (e : c.slots = (xs.map Value.int).toArray) (h0 : 0 ≤ j.toInt) (h1 : j.toInt < xs.length) : ¬ (j < 0 ∨ c.slots.size ≤ j.toNatClampNeg) := by
  rw [e]; simp only [List.size_toArray, List.length_map, Int32.lt_iff_toInt_lt, Int32.toNatClampNeg, Int32.reduceToInt]; omega
theorem go_alen (C : Cx E Z own nm bytes mx rt) {a : Nat} {ty : FieldType} {xs : List Int32} {z : Int32} (F : Ai Z h a ty xs) (hd : decode bytes pc = .ok (.arraylength, 1)) (hz : xs.length.toInt32 = z) (hp : pc + 1 = pc') (H : Go E R n0 Q h k n pc' Ls (.int z :: st)) : Go E R n0 Q h k n pc Ls (.ref a :: st) := by
  subst hp hz
  obtain ⟨c, A, r, q⟩ := F
  refine go_step H fun T locs t X hh s2 => X.arraylength C.1 (by rw [hh]; exact A.1) (State.isArrayOf_alike C.2.2.2.1.alike A.2.1) (g := mkF E.2.2.2.2.1 pc Ls (.ref a :: st)) rfl rfl (hb C.2.1 hd) t ?_
  rw [r]; simpa using s2
theorem ai_get {xs : List Int32} {j v : Int32} {i : Nat} (hi : j.toInt = (i : Int)) (hv : xs[i]? = some v) : ((xs.map Value.int).toArray)[j.toNatClampNeg]? = some (.int v) := by
  have e : j.toNatClampNeg = i := by show j.toInt.toNat = i; omega
  rw [e]; simp [hv]
theorem go_iaload (C : Cx E Z own nm bytes mx rt) {a : Nat} {xs : List Int32} {j v : Int32} (F : Ai Z h a .int xs) {i : Nat} (hi : j.toInt = (i : Int)) (hv : xs[i]? = some v) (hd : decode bytes pc = .ok (.iaload, 1)) (hp : pc + 1 = pc') (H : Go E R n0 Q h k n pc' Ls (.int v :: st)) : Go E R n0 Q h k n pc Ls (.int j :: .ref a :: st) := by
  subst hp
  obtain ⟨c, A, r, q⟩ := F
  have hb1 := Ai.bound (j := j) r (by omega) (by have := (List.getElem?_eq_some_iff.mp hv).1; omega)
  exact go_step H fun T locs t X hh s2 => X.iaload C.1 (by rw [hh]; exact A.1) (State.isArrayOf_alike C.2.2.2.1.alike A.2.1) A.2.2 hb1 (by rw [r]; exact ai_get hi hv) (g := mkF E.2.2.2.2.1 pc Ls (.int j :: .ref a :: st)) rfl rfl (hb C.2.1 hd) t s2
theorem go_baloadB (C : Cx E Z own nm bytes mx rt) {a : Nat} {xs : List Int32} {j v : Int32} (F : Ai Z h a .byte xs) {i : Nat} (hi : j.toInt = (i : Int)) (hv : xs[i]? = some v) (hd : decode bytes pc = .ok (.baload, 1)) (hp : pc + 1 = pc') (H : Go E R n0 Q h k n pc' Ls (.int v :: st)) : Go E R n0 Q h k n pc Ls (.int j :: .ref a :: st) := by
  subst hp
  obtain ⟨c, A, r, q⟩ := F
  have hb1 := Ai.bound (j := j) r (by omega) (by have := (List.getElem?_eq_some_iff.mp hv).1; omega)
  exact go_step H fun T locs t X hh s2 => X.baloadBytes C.1 (by rw [hh]; exact A.1) (State.isArrayOf_alike C.2.2.2.1.alike A.2.1) A.2.2 hb1 (by rw [r]; exact ai_get hi hv) (g := mkF E.2.2.2.2.1 pc Ls (.int j :: .ref a :: st)) rfl rfl (hb C.2.1 hd) t s2
theorem go_baloadZ (C : Cx E Z own nm bytes mx rt) {a : Nat} {xs : List Int32} {j v : Int32} (F : Ai Z h a .boolean xs) {i : Nat} (hi : j.toInt = (i : Int)) (hv : xs[i]? = some v) (hd : decode bytes pc = .ok (.baload, 1)) (hp : pc + 1 = pc') (H : Go E R n0 Q h k n pc' Ls (.int v :: st)) : Go E R n0 Q h k n pc Ls (.int j :: .ref a :: st) := by
  subst hp
  obtain ⟨c, A, r, q⟩ := F
  have hb1 := Ai.bound (j := j) r (by omega) (by have := (List.getElem?_eq_some_iff.mp hv).1; omega)
  exact go_step H fun T locs t X hh s2 => X.baloadBooleans C.1 (by rw [hh]; exact A.1) (State.isArrayOf_alike C.2.2.2.1.alike A.2.1) A.2.2 hb1 (by rw [r]; exact ai_get hi hv) (g := mkF E.2.2.2.2.1 pc Ls (.int j :: .ref a :: st)) rfl rfl (hb C.2.1 hd) t s2
theorem go_iastore (C : Cx E Z own nm bytes mx rt) {a : Nat} {xs : List Int32} {j v : Int32} (F : Ai Z h a .int xs) {i : Nat} {xs' : List Int32} (hi : j.toInt = (i : Int)) (h1 : i < xs.length) (hxs : xs.set i v = xs') (ge : n0 ≤ a) (hd : decode bytes pc = .ok (.iastore, 1)) (hp : pc + 1 = pc')
    (H : ∀ h', Wr h h' a i (.int v) → Ai Z h' a .int xs' → Go E R n0 Q h' k n pc' Ls st) : Go E R n0 Q h k n pc Ls (.int v :: .int j :: .ref a :: st) := fun T locs X hh N => by
  subst hp
  have F' := F
  obtain ⟨c, A, r, q⟩ := F
  obtain ⟨T', h', X', e', W, stp⟩ := stI X C.1 C.2.2.2.1 hh A (Ai.bound r (by omega) (by omega)) (g := mkF E.2.2.2.2.1 pc Ls (.int v :: .int j :: .ref a :: st)) rfl rfl (hb C.2.1 hd)
  have ei : j.toNatClampNeg = i := by show j.toInt.toNat = i; omega
  rw [ei] at W
  obtain ⟨s₂, o, q1, q⟩ := H h' W (hxs ▸ F'.set W) T' _ X' e' (Fr.snoc X' N ge)
  exact ⟨s₂, o, stp _ q1, q⟩
theorem go_bastoreZ (C : Cx E Z own nm bytes mx rt) {a : Nat} {xs : List Int32} {j v : Int32} (F : Ai Z h a .boolean xs) {i : Nat} {xs' : List Int32} (hi : j.toInt = (i : Int)) (h1 : i < xs.length) (hxs : xs.set i v = xs') (hv : v = 0 ∨ v = 1) (ge : n0 ≤ a) (hd : decode bytes pc = .ok (.bastore, 1)) (hp : pc + 1 = pc')
    (H : ∀ h', Wr h h' a i (.int v) → Ai Z h' a .boolean xs' → Go E R n0 Q h' k n pc' Ls st) : Go E R n0 Q h k n pc Ls (.int v :: .int j :: .ref a :: st) := fun T locs X hh N => by
  subst hp
  have F' := F
  have nv : nar .boolean v = v := by rcases hv with rfl | rfl <;> rfl
  obtain ⟨c, A, r, q⟩ := F
  obtain ⟨T', h', X', e', W, stp⟩ := stZ X C.1 C.2.2.2.1 hh A (Ai.bound r (by omega) (by omega)) (g := mkF E.2.2.2.2.1 pc Ls (.int v :: .int j :: .ref a :: st)) rfl rfl (hb C.2.1 hd)
  have ei : j.toNatClampNeg = i := by show j.toInt.toNat = i; omega
  rw [ei] at W
  rw [nv] at W
  obtain ⟨s₂, o, q1, q⟩ := H h' W (hxs ▸ F'.set W) T' _ X' e' (Fr.snoc X' N ge)
  exact ⟨s₂, o, stp _ q1, q⟩
theorem go_bastoreB (C : Cx E Z own nm bytes mx rt) {a : Nat} {xs : List Int32} {j v : Int32} (F : Ai Z h a .byte xs) {i : Nat} {xs' : List Int32} (hi : j.toInt = (i : Int)) (h1 : i < xs.length) (hxs : xs.set i v = xs') (hv : nar .byte v = v) (ge : n0 ≤ a) (hd : decode bytes pc = .ok (.bastore, 1)) (hp : pc + 1 = pc')
    (H : ∀ h', Wr h h' a i (.int v) → Ai Z h' a .byte xs' → Go E R n0 Q h' k n pc' Ls st) : Go E R n0 Q h k n pc Ls (.int v :: .int j :: .ref a :: st) := fun T locs X hh N => by
  subst hp
  have F' := F
  obtain ⟨c, A, r, q⟩ := F
  obtain ⟨T', h', X', e', W, stp⟩ := stB X C.1 C.2.2.2.1 hh A (Ai.bound r (by omega) (by omega)) (g := mkF E.2.2.2.2.1 pc Ls (.int v :: .int j :: .ref a :: st)) rfl rfl (hb C.2.1 hd)
  have ei : j.toNatClampNeg = i := by show j.toInt.toNat = i; omega
  rw [ei] at W
  rw [hv] at W
  obtain ⟨s₂, o, q1, q⟩ := H h' W (hxs ▸ F'.set W) T' _ X' e' (Fr.snoc X' N ge)
  exact ⟨s₂, o, stp _ q1, q⟩
theorem go_initO (C : Cx E Z own nm bytes mx rt) {i : Nat} {a : Nat} (w1 : (Cond.methodLink own i Lib.objectInit).before a0 Z = true) (w2 : (Cond.instanceMethod Lib.objectInit).before a0 Z = true) (w3 : (Cond.code Lib.objectInit object_method_1_code 1 none).before a0 Z = true)
    (hd : decode bytes pc = .ok (.invokespecial i, 3)) (hsz : Ls.size = mx) (hf : 1 ≤ R.frames) (W : Nat) (hW : (st.map fun v => v.category).sum = W) (hlo : W + 12 ≤ R.locals) (hp : pc + 3 = pc') (H : Go E R n0 Q h k n pc' Ls st) : Go E R n0 Q h k n pc Ls (.ref a :: st) := fun T locs X hh N => by
  subst hp hW
  obtain ⟨T', X', e', stp⟩ := initO X C.1 C.2.2.2.1 C.2.2.2.2.1 w1 w2 w3 hh (g := mkF E.2.2.2.2.1 pc Ls (.ref a :: st)) rfl (hsz.trans C.2.2.1.symm) rfl (hb C.2.1 hd) hf (W := (st.map fun v => v.category).sum) (by show 2 * 0 + _ ≤ _; omega) hlo
  obtain ⟨s₂, o, q1, q⟩ := H T' _ X' e' N
  exact ⟨s₂, o, stp _ q1, q⟩
end GoKit
theorem pn0 : plainName "com/example/langouste/langouste/quorum/Vote" = true := by first | (simp [plainName, overriddenIn]; done) | decide +kernel
theorem pn1 : plainName "java/lang/Record" = true := by first | (simp [plainName, overriddenIn]; done) | decide +kernel
theorem pn2 : plainName "com/example/langouste/langouste/quorum/VoteIsBetterThanPinLaw" = true := by first | (simp [plainName, overriddenIn]; done) | decide +kernel
theorem pd0 : parseMethodDescriptor "(JJJ)V" = some ⟨[.long, .long, .long], none⟩ := by decide +kernel
theorem pd1 : parseMethodDescriptor "()V" = some ⟨[], none⟩ := by decide +kernel
theorem pd2 : parseMethodDescriptor "(Lcom/example/langouste/langouste/quorum/Vote;)Z" = some ⟨[(.object "com/example/langouste/langouste/quorum/Vote")], some .boolean⟩ := by decide +kernel
theorem pd3 : parseMethodDescriptor "(JJJJJJ)Z" = some ⟨[.long, .long, .long, .long, .long, .long], some .boolean⟩ := by decide +kernel
theorem d1_0 : decode prog_47_method_1_code 0 = .ok (.aload_n 0, 1) := by decide +kernel
theorem d1_1 : decode prog_47_method_1_code 1 = .ok (.invokespecial 1, 3) := by decide +kernel
theorem d1_4 : decode prog_47_method_1_code 4 = .ok (.aload_n 0, 1) := by decide +kernel
theorem d1_5 : decode prog_47_method_1_code 5 = .ok (.lload_n 1, 1) := by decide +kernel
theorem d1_6 : decode prog_47_method_1_code 6 = .ok (.putfield 7, 3) := by decide +kernel
theorem d1_9 : decode prog_47_method_1_code 9 = .ok (.aload_n 0, 1) := by decide +kernel
theorem d1_10 : decode prog_47_method_1_code 10 = .ok (.lload_n 3, 1) := by decide +kernel
theorem d1_11 : decode prog_47_method_1_code 11 = .ok (.putfield 13, 3) := by decide +kernel
theorem d1_14 : decode prog_47_method_1_code 14 = .ok (.aload_n 0, 1) := by decide +kernel
theorem d1_15 : decode prog_47_method_1_code 15 = .ok (.lload 5, 2) := by decide +kernel
theorem d1_17 : decode prog_47_method_1_code 17 = .ok (.putfield 16, 3) := by decide +kernel
theorem d1_20 : decode prog_47_method_1_code 20 = .ok (.return_, 1) := by decide +kernel
theorem d2_0 : decode jdk_30_method_1_code 0 = .ok (.aload_n 0, 1) := by decide +kernel
theorem d2_1 : decode jdk_30_method_1_code 1 = .ok (.invokespecial 1, 3) := by decide +kernel
theorem d2_4 : decode jdk_30_method_1_code 4 = .ok (.return_, 1) := by decide +kernel
theorem d4_0 : decode prog_47_method_3_code 0 = .ok (.aload_n 0, 1) := by decide +kernel
theorem d4_1 : decode prog_47_method_3_code 1 = .ok (.getfield 13, 3) := by decide +kernel
theorem d4_4 : decode prog_47_method_3_code 4 = .ok (.aload_n 1, 1) := by decide +kernel
theorem d4_5 : decode prog_47_method_3_code 5 = .ok (.getfield 13, 3) := by decide +kernel
theorem d4_8 : decode prog_47_method_3_code 8 = .ok (.lcmp, 1) := by decide +kernel
theorem d4_9 : decode prog_47_method_3_code 9 = .ok (.ifCond .eq 24, 3) := by decide +kernel
theorem d4_12 : decode prog_47_method_3_code 12 = .ok (.aload_n 0, 1) := by decide +kernel
theorem d4_13 : decode prog_47_method_3_code 13 = .ok (.getfield 13, 3) := by decide +kernel
theorem d4_16 : decode prog_47_method_3_code 16 = .ok (.aload_n 1, 1) := by decide +kernel
theorem d4_17 : decode prog_47_method_3_code 17 = .ok (.getfield 13, 3) := by decide +kernel
theorem d4_20 : decode prog_47_method_3_code 20 = .ok (.lcmp, 1) := by decide +kernel
theorem d4_21 : decode prog_47_method_3_code 21 = .ok (.ifCond .le 7, 3) := by decide +kernel
theorem d4_24 : decode prog_47_method_3_code 24 = .ok (.iconst 1, 1) := by decide +kernel
theorem d4_25 : decode prog_47_method_3_code 25 = .ok (.goto 4, 3) := by decide +kernel
theorem d4_28 : decode prog_47_method_3_code 28 = .ok (.iconst 0, 1) := by decide +kernel
theorem d4_29 : decode prog_47_method_3_code 29 = .ok (.istore_n 2, 1) := by decide +kernel
theorem d4_30 : decode prog_47_method_3_code 30 = .ok (.goto 54, 3) := by decide +kernel
theorem d4_33 : decode prog_47_method_3_code 33 = .ok (.aload_n 0, 1) := by decide +kernel
theorem d4_34 : decode prog_47_method_3_code 34 = .ok (.getfield 16, 3) := by decide +kernel
theorem d4_37 : decode prog_47_method_3_code 37 = .ok (.aload_n 1, 1) := by decide +kernel
theorem d4_38 : decode prog_47_method_3_code 38 = .ok (.getfield 16, 3) := by decide +kernel
theorem d4_41 : decode prog_47_method_3_code 41 = .ok (.lcmp, 1) := by decide +kernel
theorem d4_42 : decode prog_47_method_3_code 42 = .ok (.ifCond .eq 24, 3) := by decide +kernel
theorem d4_45 : decode prog_47_method_3_code 45 = .ok (.aload_n 0, 1) := by decide +kernel
theorem d4_46 : decode prog_47_method_3_code 46 = .ok (.getfield 16, 3) := by decide +kernel
theorem d4_49 : decode prog_47_method_3_code 49 = .ok (.aload_n 1, 1) := by decide +kernel
theorem d4_50 : decode prog_47_method_3_code 50 = .ok (.getfield 16, 3) := by decide +kernel
theorem d4_53 : decode prog_47_method_3_code 53 = .ok (.lcmp, 1) := by decide +kernel
theorem d4_54 : decode prog_47_method_3_code 54 = .ok (.ifCond .le 7, 3) := by decide +kernel
theorem d4_57 : decode prog_47_method_3_code 57 = .ok (.iconst 1, 1) := by decide +kernel
theorem d4_58 : decode prog_47_method_3_code 58 = .ok (.goto 4, 3) := by decide +kernel
theorem d4_61 : decode prog_47_method_3_code 61 = .ok (.iconst 0, 1) := by decide +kernel
theorem d4_62 : decode prog_47_method_3_code 62 = .ok (.istore_n 2, 1) := by decide +kernel
theorem d4_63 : decode prog_47_method_3_code 63 = .ok (.goto 21, 3) := by decide +kernel
theorem d4_66 : decode prog_47_method_3_code 66 = .ok (.aload_n 0, 1) := by decide +kernel
theorem d4_67 : decode prog_47_method_3_code 67 = .ok (.getfield 7, 3) := by decide +kernel
theorem d4_70 : decode prog_47_method_3_code 70 = .ok (.aload_n 1, 1) := by decide +kernel
theorem d4_71 : decode prog_47_method_3_code 71 = .ok (.getfield 7, 3) := by decide +kernel
theorem d4_74 : decode prog_47_method_3_code 74 = .ok (.lcmp, 1) := by decide +kernel
theorem d4_75 : decode prog_47_method_3_code 75 = .ok (.ifCond .le 7, 3) := by decide +kernel
theorem d4_78 : decode prog_47_method_3_code 78 = .ok (.iconst 1, 1) := by decide +kernel
theorem d4_79 : decode prog_47_method_3_code 79 = .ok (.goto 4, 3) := by decide +kernel
theorem d4_82 : decode prog_47_method_3_code 82 = .ok (.iconst 0, 1) := by decide +kernel
theorem d4_83 : decode prog_47_method_3_code 83 = .ok (.istore_n 2, 1) := by decide +kernel
theorem d4_84 : decode prog_47_method_3_code 84 = .ok (.iload_n 2, 1) := by decide +kernel
theorem d4_85 : decode prog_47_method_3_code 85 = .ok (.ireturn, 1) := by decide +kernel
theorem d5_0 : decode method_2_code 0 = .ok (.lload_n 2, 1) := by decide +kernel
theorem d5_1 : decode method_2_code 1 = .ok (.lload 8, 2) := by decide +kernel
theorem d5_3 : decode method_2_code 3 = .ok (.lcmp, 1) := by decide +kernel
theorem d5_4 : decode method_2_code 4 = .ok (.ifCond .gt 33, 3) := by decide +kernel
theorem d5_7 : decode method_2_code 7 = .ok (.lload_n 2, 1) := by decide +kernel
theorem d5_8 : decode method_2_code 8 = .ok (.lload 8, 2) := by decide +kernel
theorem d5_10 : decode method_2_code 10 = .ok (.lcmp, 1) := by decide +kernel
theorem d5_11 : decode method_2_code 11 = .ok (.ifCond .ne 30, 3) := by decide +kernel
theorem d5_14 : decode method_2_code 14 = .ok (.lload 4, 2) := by decide +kernel
theorem d5_16 : decode method_2_code 16 = .ok (.lload 10, 2) := by decide +kernel
theorem d5_18 : decode method_2_code 18 = .ok (.lcmp, 1) := by decide +kernel
theorem d5_19 : decode method_2_code 19 = .ok (.ifCond .gt 18, 3) := by decide +kernel
theorem d5_22 : decode method_2_code 22 = .ok (.lload 4, 2) := by decide +kernel
theorem d5_24 : decode method_2_code 24 = .ok (.lload 10, 2) := by decide +kernel
theorem d5_26 : decode method_2_code 26 = .ok (.lcmp, 1) := by decide +kernel
theorem d5_27 : decode method_2_code 27 = .ok (.ifCond .ne 14, 3) := by decide +kernel
theorem d5_30 : decode method_2_code 30 = .ok (.lload_n 0, 1) := by decide +kernel
theorem d5_31 : decode method_2_code 31 = .ok (.lload 6, 2) := by decide +kernel
theorem d5_33 : decode method_2_code 33 = .ok (.lcmp, 1) := by decide +kernel
theorem d5_34 : decode method_2_code 34 = .ok (.ifCond .le 7, 3) := by decide +kernel
theorem d5_37 : decode method_2_code 37 = .ok (.iconst 1, 1) := by decide +kernel
theorem d5_38 : decode method_2_code 38 = .ok (.goto 4, 3) := by decide +kernel
theorem d5_41 : decode method_2_code 41 = .ok (.iconst 0, 1) := by decide +kernel
theorem d5_42 : decode method_2_code 42 = .ok (.ireturn, 1) := by decide +kernel
def ind (P : Prop) [Decidable P] : Int32 := if P then 1 else 0
def Qb (P : Prop) [Decidable P] (h0 : Heap) (v : Option Value) (h : Heap) : Prop := v = some (.int (ind P)) ∧ h0 = h
theorem qb1 {P : Prop} [Decidable P] {h0 : Heap} (hP : P) : Qb P h0 (some (.int 1)) h0 := ⟨by rw [ind, if_pos hP], rfl⟩
theorem qb0 {P : Prop} [Decidable P] {h0 : Heap} (hP : ¬ P) : Qb P h0 (some (.int 0)) h0 := ⟨by rw [ind, if_neg hP], rfl⟩
abbrev bet (l1 e1 z1 l2 e2 z2 : Int64) : Prop := e2.toInt < e1.toInt ∨ (e1.toInt = e2.toInt ∧ (z2.toInt < z1.toInt ∨ (z1.toInt = z2.toInt ∧ l2.toInt < l1.toInt)))
theorem own_cmp (x y : Int64) : ((XT.cmpL x y).toInt = 1 ∧ y.toInt < x.toInt) ∨ ((XT.cmpL x y).toInt = 0 ∧ x.toInt = y.toInt) ∨ ((XT.cmpL x y).toInt = -1 ∧ x.toInt < y.toInt) := by
  show ((if y < x then (1 : Int32) else if x = y then 0 else -1).toInt = 1 ∧ _) ∨ ((if y < x then (1 : Int32) else if x = y then 0 else -1).toInt = 0 ∧ _) ∨ ((if y < x then (1 : Int32) else if x = y then 0 else -1).toInt = -1 ∧ _)
  have q1 := Int64.lt_iff_toInt_lt (x := y) (y := x)
  have q2 := Int64.toInt_inj (x := x) (y := y)
  by_cases c1 : y < x
  · rw [if_pos c1]; exact Or.inl ⟨by decide, q1.mp c1⟩
  · rw [if_neg c1]
    by_cases c2 : x = y
    · rw [if_pos c2]; exact Or.inr (Or.inl ⟨by decide, q2.mpr c2⟩)
    · rw [if_neg c2]
      refine Or.inr (Or.inr ⟨by decide, ?_⟩)
      have c3 : ¬ y.toInt < x.toInt := fun q => c1 (q1.mpr q)
      have c4 : ¬ x.toInt = y.toInt := fun q => c2 (q2.mp q)
      omega
abbrev R0 : Room := { frames := 0, cells := 0, slots := 0, locals := 0 }
abbrev RR : Room := { frames := 1, cells := 0, slots := 0, locals := 12 }
abbrev RC : Room := { frames := 2, cells := 0, slots := 0, locals := 24 }
def Vt (Z : State) (h : Heap) (a : Nat) (l e z : Int64) : Prop := Exa Z h a "com/example/langouste/langouste/quorum/Vote" ∧ Fld Z h a "com/example/langouste/langouste/quorum/Vote" "leader" "J" (.long l) ∧ Fld Z h a "com/example/langouste/langouste/quorum/Vote" "epoch" "J" (.long e) ∧ Fld Z h a "com/example/langouste/langouste/quorum/Vote" "zxid" "J" (.long z)
theorem Vt.ext {Z : State} {h h' : Heap} {a : Nat} {l e z : Int64} (F : Vt Z h a l e z) (q : Ext h h') : Vt Z h' a l e z := ⟨F.1.ext q, F.2.1.ext q, F.2.2.1.ext q, F.2.2.2.ext q⟩
theorem Vt.keep {Z : State} {h h' : Heap} {ws : List Nat} {a : Nat} {l e z : Int64} (F : Vt Z h a l e z) (K : Keep h h' ws) (q : a ∉ ws) : Vt Z h' a l e z := ⟨F.1.keep K, F.2.1.keep K q, F.2.2.1.keep K q, F.2.2.2.keep K q⟩
theorem Vt.lt {Z : State} {h : Heap} {a : Nat} {l e z : Int64} (F : Vt Z h a l e z) : a < h.size := exa_lt F.1
def Qn (h0 : Heap) (v : Option Value) (h : Heap) : Prop := v = none ∧ h0 = h
def Qc (Z : State) (h0 : Heap) (a : Nat) (l e z : Int64) (v : Option Value) (h : Heap) : Prop := v = none ∧ Keep h0 h [a] ∧ Vt Z h a l e z
set_option maxRecDepth 65536 in
set_option maxHeartbeats 4000000 in
theorem rmR (Z : State) (a0 : Array Value) (hw : ∀ d ∈ tables_1, d.before a0 Z = true) (a : Nat) (h0 : Heap) (n0 : Nat) : Met Z (⟨"java/lang/Record", "<init>", "()V"⟩ : MethodName) jdk_30_method_1_code 1 none RR #[.ref a] h0 n0 (Qn h0) := by
  refine met_of (Ls := #[.val (.ref a)]) pn1 (fun m => by first | (simp [entryFrame, mkF, argsToLocals, Value.category]; done) | rfl) ?_
  intro E (C : Cx E Z "java/lang/Record" "<init>" jdk_30_method_1_code 1 none)
  refine go_aloadN C (pc' := 1) d2_0 rfl rfl rfl ?_
  refine go_initO C (pc' := 4) (own_w hw (i := 11) rfl) (own_w hw (i := 12) rfl) (own_w hw (i := 13) rfl) d2_1 rfl (by decide) 0 rfl (by decide) rfl ?_
  refine go_retV C d2_4 (by decide) (by decide) ?_
  exact ⟨rfl, rfl⟩
set_option maxRecDepth 65536 in
set_option maxHeartbeats 4000000 in
theorem rmC (Z : State) (a0 : Array Value) (hw : ∀ d ∈ tables_1, d.before a0 Z = true) (a : Nat) (l e z : Int64) (h0 : Heap) (n0 : Nat) (ga : n0 ≤ a) (X0 : Exa Z h0 a "com/example/langouste/langouste/quorum/Vote") (Fleader0 : Fld Z h0 a "com/example/langouste/langouste/quorum/Vote" "leader" "J" (.long 0)) (Fepoch0 : Fld Z h0 a "com/example/langouste/langouste/quorum/Vote" "epoch" "J" (.long 0)) (Fzxid0 : Fld Z h0 a "com/example/langouste/langouste/quorum/Vote" "zxid" "J" (.long 0)) : Met Z (⟨"com/example/langouste/langouste/quorum/Vote", "<init>", "(JJJ)V"⟩ : MethodName) prog_47_method_1_code 7 none RC #[.ref a, .long l, .long e, .long z] h0 n0 (Qc Z h0 a l e z) := by
  refine met_of (Ls := #[.val (.ref a), .val (.long l), .second, .val (.long e), .second, .val (.long z), .second]) pn0 (fun m => by first | (simp [entryFrame, mkF, argsToLocals, Value.category]; done) | rfl) ?_
  intro E (C : Cx E Z "com/example/langouste/langouste/quorum/Vote" "<init>" prog_47_method_1_code 7 none)
  have K0 := Keep.refl h0 [a]
  refine go_aloadN C (pc' := 1) d1_0 rfl rfl rfl ?_
  refine go_callC C (pc' := 4) (k' := 0) (n' := 0) (argsL := []) (rest := []) (own_w hw (i := 6) rfl) (own_w hw (i := 7) rfl) (own_w hw (i := 9) rfl) (own_w hw (i := 10) rfl) rfl (rmR Z a0 hw a h0 n0) d1_1 rfl rfl (lenOf pd1 rfl) (by decide) (by decide) 0 rfl (by decide) rfl rfl (by decide) (by decide) rfl ?_
  rintro _ _ ⟨rfl, rfl⟩
  show Go E RC n0 (Qc Z h0 a l e z) h0 0 0 4 #[.val (.ref a), .val (.long l), .second, .val (.long e), .second, .val (.long z), .second] []
  refine go_aloadN C (pc' := 5) d1_4 rfl rfl rfl ?_
  refine go_lloadN C (pc' := 6) d1_5 rfl rfl ?_
  refine go_putF C (pc' := 9) (ty := .long) (own_w hw (i := 14) rfl) Fleader0 X0 (Or.inr ⟨(own_w hw (i := 15) rfl), rfl, rfl⟩) (own_w hw (i := 1) rfl) (by decide) rfl rfl ga d1_6 rfl ?_
  intro h1 W1
  have X1 := X0.wr W1
  have K1 := K0.wr W1 (Or.inl (List.mem_singleton.mpr rfl))
  have Fleader1 := Fleader0.same W1
  have Fepoch1 := Fepoch0.other W1 (Or.inr (slot_ne (Or.inr (own_w hw (i := 17) rfl)) (Or.inr (own_w hw (i := 15) rfl)) (by decide) (t := .long) (t' := .long) (by decide) (by decide)))
  have Fzxid1 := Fzxid0.other W1 (Or.inr (slot_ne (Or.inr (own_w hw (i := 19) rfl)) (Or.inr (own_w hw (i := 15) rfl)) (by decide) (t := .long) (t' := .long) (by decide) (by decide)))
  refine go_aloadN C (pc' := 10) d1_9 rfl rfl rfl ?_
  refine go_lloadN C (pc' := 11) d1_10 rfl rfl ?_
  refine go_putF C (pc' := 14) (ty := .long) (own_w hw (i := 16) rfl) Fepoch1 X1 (Or.inr ⟨(own_w hw (i := 17) rfl), rfl, rfl⟩) (own_w hw (i := 1) rfl) (by decide) rfl rfl ga d1_11 rfl ?_
  intro h2 W2
  have X2 := X1.wr W2
  have K2 := K1.wr W2 (Or.inl (List.mem_singleton.mpr rfl))
  have Fleader2 := Fleader1.other W2 (Or.inr (slot_ne (Or.inr (own_w hw (i := 15) rfl)) (Or.inr (own_w hw (i := 17) rfl)) (by decide) (t := .long) (t' := .long) (by decide) (by decide)))
  have Fepoch2 := Fepoch1.same W2
  have Fzxid2 := Fzxid1.other W2 (Or.inr (slot_ne (Or.inr (own_w hw (i := 19) rfl)) (Or.inr (own_w hw (i := 17) rfl)) (by decide) (t := .long) (t' := .long) (by decide) (by decide)))
  refine go_aloadN C (pc' := 15) d1_14 rfl rfl rfl ?_
  refine go_lload C (pc' := 17) d1_15 rfl rfl ?_
  refine go_putF C (pc' := 20) (ty := .long) (own_w hw (i := 18) rfl) Fzxid2 X2 (Or.inr ⟨(own_w hw (i := 19) rfl), rfl, rfl⟩) (own_w hw (i := 1) rfl) (by decide) rfl rfl ga d1_17 rfl ?_
  intro h3 W3
  have X3 := X2.wr W3
  have K3 := K2.wr W3 (Or.inl (List.mem_singleton.mpr rfl))
  have Fleader3 := Fleader2.other W3 (Or.inr (slot_ne (Or.inr (own_w hw (i := 15) rfl)) (Or.inr (own_w hw (i := 19) rfl)) (by decide) (t := .long) (t' := .long) (by decide) (by decide)))
  have Fepoch3 := Fepoch2.other W3 (Or.inr (slot_ne (Or.inr (own_w hw (i := 17) rfl)) (Or.inr (own_w hw (i := 19) rfl)) (by decide) (t := .long) (t' := .long) (by decide) (by decide)))
  have Fzxid3 := Fzxid2.same W3
  refine go_retV C d1_20 (by decide) (by decide) ?_
  exact ⟨rfl, K3, X3, Fleader3, Fepoch3, Fzxid3⟩
set_option maxRecDepth 65536 in
set_option maxHeartbeats 4000000 in
theorem rmB (Z : State) (a0 : Array Value) (hw : ∀ d ∈ tables_1, d.before a0 Z = true) (a b : Nat) (l1 e1 z1 l2 e2 z2 : Int64) (h0 : Heap) (n0 : Nat) (V1 : Vt Z h0 a l1 e1 z1) (V2 : Vt Z h0 b l2 e2 z2) : Met Z (⟨"com/example/langouste/langouste/quorum/Vote", "isBetterThan", "(Lcom/example/langouste/langouste/quorum/Vote;)Z"⟩ : MethodName) prog_47_method_3_code 3 (some .boolean) R0 #[.ref a, .ref b] h0 n0 (Qb (bet l1 e1 z1 l2 e2 z2) h0) := by
  refine met_of (Ls := #[.val (.ref a), .val (.ref b), .unset]) pn0 (fun m => by first | (simp [entryFrame, mkF, argsToLocals, Value.category]; done) | rfl) ?_
  intro E (C : Cx E Z "com/example/langouste/langouste/quorum/Vote" "isBetterThan" prog_47_method_3_code 3 (some .boolean))
  refine go_aloadN C (pc' := 1) d4_0 rfl rfl rfl ?_
  refine go_getF C (pc' := 4) (own_w hw (i := 16) rfl) V1.2.2.1 d4_1 rfl ?_
  refine go_aloadN C (pc' := 5) d4_4 rfl rfl rfl ?_
  refine go_getF C (pc' := 8) (own_w hw (i := 16) rfl) V2.2.2.1 d4_5 rfl ?_
  have c8 := own_cmp e1 e2
  refine go_lcmp C (pc' := 9) d4_8 rfl ?_
  refine go_if C (pcY := 33) (pcN := 12) d4_9 (by decide) (by decide) rfl ?_ ?_
  · intro q1
    refine go_aloadN C (pc' := 34) d4_33 rfl rfl rfl ?_
    refine go_getF C (pc' := 37) (own_w hw (i := 18) rfl) V1.2.2.2 d4_34 rfl ?_
    refine go_aloadN C (pc' := 38) d4_37 rfl rfl rfl ?_
    refine go_getF C (pc' := 41) (own_w hw (i := 18) rfl) V2.2.2.2 d4_38 rfl ?_
    have c41 := own_cmp z1 z2
    refine go_lcmp C (pc' := 42) d4_41 rfl ?_
    refine go_if C (pcY := 66) (pcN := 45) d4_42 (by decide) (by decide) rfl ?_ ?_
    · intro q2
      refine go_aloadN C (pc' := 67) d4_66 rfl rfl rfl ?_
      refine go_getF C (pc' := 70) (own_w hw (i := 14) rfl) V1.2.1 d4_67 rfl ?_
      refine go_aloadN C (pc' := 71) d4_70 rfl rfl rfl ?_
      refine go_getF C (pc' := 74) (own_w hw (i := 14) rfl) V2.2.1 d4_71 rfl ?_
      have c74 := own_cmp l1 l2
      refine go_lcmp C (pc' := 75) d4_74 rfl ?_
      refine go_if C (pcY := 82) (pcN := 78) d4_75 (by decide) (by decide) rfl ?_ ?_
      · intro q3
        refine go_iconst C (pc' := 83) (z := 0) d4_82 rfl rfl ?_
        refine go_istoreN C (pc' := 84) (Ls' := #[.val (.ref a), .val (.ref b), .val (.int (0 : Int32))]) d4_83 rfl rfl ?_
        refine go_iloadN C (pc' := 85) d4_84 rfl rfl ?_
        refine go_retZ C d4_85 (by decide) (by decide) (by decide) ?_
        exact qb0 (by simp only [rel, Int32.reduceToInt] at *; omega)
      · intro q3
        refine go_iconst C (pc' := 79) (z := 1) d4_78 rfl rfl ?_
        refine go_goto C (pc' := 83) d4_79 (by decide) (by decide) ?_
        refine go_istoreN C (pc' := 84) (Ls' := #[.val (.ref a), .val (.ref b), .val (.int (1 : Int32))]) d4_83 rfl rfl ?_
        refine go_iloadN C (pc' := 85) d4_84 rfl rfl ?_
        refine go_retZ C d4_85 (by decide) (by decide) (by decide) ?_
        exact qb1 (by simp only [rel, Int32.reduceToInt] at *; omega)
    · intro q2
      refine go_aloadN C (pc' := 46) d4_45 rfl rfl rfl ?_
      refine go_getF C (pc' := 49) (own_w hw (i := 18) rfl) V1.2.2.2 d4_46 rfl ?_
      refine go_aloadN C (pc' := 50) d4_49 rfl rfl rfl ?_
      refine go_getF C (pc' := 53) (own_w hw (i := 18) rfl) V2.2.2.2 d4_50 rfl ?_
      have c53 := own_cmp z1 z2
      refine go_lcmp C (pc' := 54) d4_53 rfl ?_
      refine go_if C (pcY := 61) (pcN := 57) d4_54 (by decide) (by decide) rfl ?_ ?_
      · intro q4
        refine go_iconst C (pc' := 62) (z := 0) d4_61 rfl rfl ?_
        refine go_istoreN C (pc' := 63) (Ls' := #[.val (.ref a), .val (.ref b), .val (.int (0 : Int32))]) d4_62 rfl rfl ?_
        refine go_goto C (pc' := 84) d4_63 (by decide) (by decide) ?_
        refine go_iloadN C (pc' := 85) d4_84 rfl rfl ?_
        refine go_retZ C d4_85 (by decide) (by decide) (by decide) ?_
        exact qb0 (by simp only [rel, Int32.reduceToInt] at *; omega)
      · intro q4
        refine go_iconst C (pc' := 58) (z := 1) d4_57 rfl rfl ?_
        refine go_goto C (pc' := 62) d4_58 (by decide) (by decide) ?_
        refine go_istoreN C (pc' := 63) (Ls' := #[.val (.ref a), .val (.ref b), .val (.int (1 : Int32))]) d4_62 rfl rfl ?_
        refine go_goto C (pc' := 84) d4_63 (by decide) (by decide) ?_
        refine go_iloadN C (pc' := 85) d4_84 rfl rfl ?_
        refine go_retZ C d4_85 (by decide) (by decide) (by decide) ?_
        exact qb1 (by simp only [rel, Int32.reduceToInt] at *; omega)
  · intro q1
    refine go_aloadN C (pc' := 13) d4_12 rfl rfl rfl ?_
    refine go_getF C (pc' := 16) (own_w hw (i := 16) rfl) V1.2.2.1 d4_13 rfl ?_
    refine go_aloadN C (pc' := 17) d4_16 rfl rfl rfl ?_
    refine go_getF C (pc' := 20) (own_w hw (i := 16) rfl) V2.2.2.1 d4_17 rfl ?_
    have c20 := own_cmp e1 e2
    refine go_lcmp C (pc' := 21) d4_20 rfl ?_
    refine go_if C (pcY := 28) (pcN := 24) d4_21 (by decide) (by decide) rfl ?_ ?_
    · intro q5
      refine go_iconst C (pc' := 29) (z := 0) d4_28 rfl rfl ?_
      refine go_istoreN C (pc' := 30) (Ls' := #[.val (.ref a), .val (.ref b), .val (.int (0 : Int32))]) d4_29 rfl rfl ?_
      refine go_goto C (pc' := 84) d4_30 (by decide) (by decide) ?_
      refine go_iloadN C (pc' := 85) d4_84 rfl rfl ?_
      refine go_retZ C d4_85 (by decide) (by decide) (by decide) ?_
      exact qb0 (by simp only [rel, Int32.reduceToInt] at *; omega)
    · intro q5
      refine go_iconst C (pc' := 25) (z := 1) d4_24 rfl rfl ?_
      refine go_goto C (pc' := 29) d4_25 (by decide) (by decide) ?_
      refine go_istoreN C (pc' := 30) (Ls' := #[.val (.ref a), .val (.ref b), .val (.int (1 : Int32))]) d4_29 rfl rfl ?_
      refine go_goto C (pc' := 84) d4_30 (by decide) (by decide) ?_
      refine go_iloadN C (pc' := 85) d4_84 rfl rfl ?_
      refine go_retZ C d4_85 (by decide) (by decide) (by decide) ?_
      exact qb1 (by simp only [rel, Int32.reduceToInt] at *; omega)
set_option maxRecDepth 65536 in
set_option maxHeartbeats 4000000 in
theorem rmF (Z : State) (l1 e1 z1 l2 e2 z2 : Int64) (h0 : Heap) (n0 : Nat) : Met Z (⟨"com/example/langouste/langouste/quorum/VoteIsBetterThanPinLaw", "ref", "(JJJJJJ)Z"⟩ : MethodName) method_2_code 12 (some .boolean) R0 #[.long l1, .long e1, .long z1, .long l2, .long e2, .long z2] h0 n0 (Qb (bet l1 e1 z1 l2 e2 z2) h0) := by
  refine met_of (Ls := #[.val (.long l1), .second, .val (.long e1), .second, .val (.long z1), .second, .val (.long l2), .second, .val (.long e2), .second, .val (.long z2), .second]) pn2 (fun m => by first | (simp [entryFrame, mkF, argsToLocals, Value.category]; done) | rfl) ?_
  intro E (C : Cx E Z "com/example/langouste/langouste/quorum/VoteIsBetterThanPinLaw" "ref" method_2_code 12 (some .boolean))
  refine go_lloadN C (pc' := 1) d5_0 rfl rfl ?_
  refine go_lload C (pc' := 3) d5_1 rfl rfl ?_
  have c3 := own_cmp e1 e2
  refine go_lcmp C (pc' := 4) d5_3 rfl ?_
  refine go_if C (pcY := 37) (pcN := 7) d5_4 (by decide) (by decide) rfl ?_ ?_
  · intro q1
    refine go_iconst C (pc' := 38) (z := 1) d5_37 rfl rfl ?_
    refine go_goto C (pc' := 42) d5_38 (by decide) (by decide) ?_
    refine go_retZ C d5_42 (by decide) (by decide) (by decide) ?_
    exact qb1 (by simp only [rel, Int32.reduceToInt] at *; omega)
  · intro q1
    refine go_lloadN C (pc' := 8) d5_7 rfl rfl ?_
    refine go_lload C (pc' := 10) d5_8 rfl rfl ?_
    have c10 := own_cmp e1 e2
    refine go_lcmp C (pc' := 11) d5_10 rfl ?_
    refine go_if C (pcY := 41) (pcN := 14) d5_11 (by decide) (by decide) rfl ?_ ?_
    · intro q2
      refine go_iconst C (pc' := 42) (z := 0) d5_41 rfl rfl ?_
      refine go_retZ C d5_42 (by decide) (by decide) (by decide) ?_
      exact qb0 (by simp only [rel, Int32.reduceToInt] at *; omega)
    · intro q2
      refine go_lload C (pc' := 16) d5_14 rfl rfl ?_
      refine go_lload C (pc' := 18) d5_16 rfl rfl ?_
      have c18 := own_cmp z1 z2
      refine go_lcmp C (pc' := 19) d5_18 rfl ?_
      refine go_if C (pcY := 37) (pcN := 22) d5_19 (by decide) (by decide) rfl ?_ ?_
      · intro q3
        refine go_iconst C (pc' := 38) (z := 1) d5_37 rfl rfl ?_
        refine go_goto C (pc' := 42) d5_38 (by decide) (by decide) ?_
        refine go_retZ C d5_42 (by decide) (by decide) (by decide) ?_
        exact qb1 (by simp only [rel, Int32.reduceToInt] at *; omega)
      · intro q3
        refine go_lload C (pc' := 24) d5_22 rfl rfl ?_
        refine go_lload C (pc' := 26) d5_24 rfl rfl ?_
        have c26 := own_cmp z1 z2
        refine go_lcmp C (pc' := 27) d5_26 rfl ?_
        refine go_if C (pcY := 41) (pcN := 30) d5_27 (by decide) (by decide) rfl ?_ ?_
        · intro q4
          refine go_iconst C (pc' := 42) (z := 0) d5_41 rfl rfl ?_
          refine go_retZ C d5_42 (by decide) (by decide) (by decide) ?_
          exact qb0 (by simp only [rel, Int32.reduceToInt] at *; omega)
        · intro q4
          refine go_lloadN C (pc' := 31) d5_30 rfl rfl ?_
          refine go_lload C (pc' := 33) d5_31 rfl rfl ?_
          have c33 := own_cmp l1 l2
          refine go_lcmp C (pc' := 34) d5_33 rfl ?_
          refine go_if C (pcY := 41) (pcN := 37) d5_34 (by decide) (by decide) rfl ?_ ?_
          · intro q5
            refine go_iconst C (pc' := 42) (z := 0) d5_41 rfl rfl ?_
            refine go_retZ C d5_42 (by decide) (by decide) (by decide) ?_
            exact qb0 (by simp only [rel, Int32.reduceToInt] at *; omega)
          · intro q5
            refine go_iconst C (pc' := 38) (z := 1) d5_37 rfl rfl ?_
            refine go_goto C (pc' := 42) d5_38 (by decide) (by decide) ?_
            refine go_retZ C d5_42 (by decide) (by decide) (by decide) ?_
            exact qb1 (by simp only [rel, Int32.reduceToInt] at *; omega)
def Q1 (v : Option Value) (h : Heap) : Prop := v = some (.int 1)
set_option maxRecDepth 65536 in
set_option maxHeartbeats 4000000 in
theorem rm0 (Z : State) (a0 : Array Value) (hw : ∀ d ∈ tables_1, d.before a0 Z = true) (l1 e1 z1 l2 e2 z2 : Int64) (h0 : Heap) (n0 : Nat) (Z0 : n0 ≤ h0.size) : Met Z Jvm.Pilot.@@N@@.x code maxLocals ret room_1 #[.long l1, .long e1, .long z1, .long l2, .long e2, .long z2] h0 n0 Q1 := by
  refine met_of (Ls := #[.val (.long l1), .second, .val (.long e1), .second, .val (.long z1), .second, .val (.long l2), .second, .val (.long e2), .second, .val (.long z2), .second, .unset, .unset, .unset, .unset, .unset]) pn2 (fun m => by first | (simp [entryFrame, mkF, argsToLocals, Value.category, maxLocals]; done) | rfl) ?_
  intro E (C : Cx E Z "com/example/langouste/langouste/quorum/VoteIsBetterThanPinLaw" "law" code 17 (some .boolean))
  refine go_newO C (pc' := 3) (k' := 1) (n' := 3) (own_w hw (i := 0) rfl) (own_w hw (i := 1) rfl) (own_w hw (i := 2) rfl) at_0 rfl rfl (by decide) (by decide) rfl ?_
  intro hn1 x1 A1 D1
  obtain ⟨a1, ea1⟩ : ∃ q, q = h0.size := ⟨_, rfl⟩
  rw [← ea1] at A1 D1 ⊢
  have z1n := x1.1
  have g1 : n0 ≤ a1 := by omega
  refine go_dup C (pc' := 4) at_3 rfl rfl ?_
  refine go_lloadN C (pc' := 5) at_4 rfl rfl ?_
  refine go_lloadN C (pc' := 6) at_5 rfl rfl ?_
  refine go_lload C (pc' := 8) at_6 rfl rfl ?_
  refine go_callC C (pc' := 11) (k' := 1) (n' := 3) (argsL := [(.long l1), (.long e1), (.long z1)]) (rest := [(.ref a1)]) (own_w hw (i := 3) rfl) (own_w hw (i := 4) rfl) (own_w hw (i := 2) rfl) (own_w hw (i := 5) rfl) rfl (rmC Z a0 hw a1 l1 e1 z1 hn1 n0 g1 A1 (D1 (Or.inr (own_w hw (i := 15) rfl)) (ty := .long) (by decide)) (D1 (Or.inr (own_w hw (i := 17) rfl)) (ty := .long) (by decide)) (D1 (Or.inr (own_w hw (i := 19) rfl)) (ty := .long) (by decide))) at_8 rfl rfl (lenOf pd0 rfl) (by decide) (by decide) 1 rfl (by decide) rfl rfl (by decide) (by decide) rfl ?_
  rintro _ hc1 ⟨rfl, K1, V1⟩
  have z1c := K1.1
  show Go E room_1 n0 Q1 hc1 1 3 11 #[.val (.long l1), .second, .val (.long e1), .second, .val (.long z1), .second, .val (.long l2), .second, .val (.long e2), .second, .val (.long z2), .second, .unset, .unset, .unset, .unset, .unset] [(.ref a1)]
  refine go_astore C (pc' := 13) (Ls' := #[.val (.long l1), .second, .val (.long e1), .second, .val (.long z1), .second, .val (.long l2), .second, .val (.long e2), .second, .val (.long z2), .second, .val (.ref a1), .unset, .unset, .unset, .unset]) at_11 rfl rfl rfl ?_
  refine go_newO C (pc' := 16) (k' := 2) (n' := 6) (own_w hw (i := 0) rfl) (own_w hw (i := 1) rfl) (own_w hw (i := 2) rfl) at_13 rfl rfl (by decide) (by decide) rfl ?_
  intro hn2 x2 A2 D2
  obtain ⟨a2, ea2⟩ : ∃ q, q = hc1.size := ⟨_, rfl⟩
  rw [← ea2] at A2 D2 ⊢
  have z2n := x2.1
  have g2 : n0 ≤ a2 := by omega
  have nea1_2 : a1 ≠ a2 := by have := V1.lt; omega
  replace V1 := V1.ext x2
  refine go_dup C (pc' := 17) at_16 rfl rfl ?_
  refine go_lload C (pc' := 19) at_17 rfl rfl ?_
  refine go_lload C (pc' := 21) at_19 rfl rfl ?_
  refine go_lload C (pc' := 23) at_21 rfl rfl ?_
  refine go_callC C (pc' := 26) (k' := 2) (n' := 6) (argsL := [(.long l2), (.long e2), (.long z2)]) (rest := [(.ref a2)]) (own_w hw (i := 3) rfl) (own_w hw (i := 4) rfl) (own_w hw (i := 2) rfl) (own_w hw (i := 5) rfl) rfl (rmC Z a0 hw a2 l2 e2 z2 hn2 n0 g2 A2 (D2 (Or.inr (own_w hw (i := 15) rfl)) (ty := .long) (by decide)) (D2 (Or.inr (own_w hw (i := 17) rfl)) (ty := .long) (by decide)) (D2 (Or.inr (own_w hw (i := 19) rfl)) (ty := .long) (by decide))) at_23 rfl rfl (lenOf pd0 rfl) (by decide) (by decide) 1 rfl (by decide) rfl rfl (by decide) (by decide) rfl ?_
  rintro _ hc2 ⟨rfl, K2, V2⟩
  replace V1 := V1.keep K2 (ninS nea1_2 nin0)
  have z2c := K2.1
  show Go E room_1 n0 Q1 hc2 2 6 26 #[.val (.long l1), .second, .val (.long e1), .second, .val (.long z1), .second, .val (.long l2), .second, .val (.long e2), .second, .val (.long z2), .second, .val (.ref a1), .unset, .unset, .unset, .unset] [(.ref a2)]
  refine go_astore C (pc' := 28) (Ls' := #[.val (.long l1), .second, .val (.long e1), .second, .val (.long z1), .second, .val (.long l2), .second, .val (.long e2), .second, .val (.long z2), .second, .val (.ref a1), .val (.ref a2), .unset, .unset, .unset]) at_26 rfl rfl rfl ?_
  refine go_newO C (pc' := 31) (k' := 3) (n' := 9) (own_w hw (i := 0) rfl) (own_w hw (i := 1) rfl) (own_w hw (i := 2) rfl) at_28 rfl rfl (by decide) (by decide) rfl ?_
  intro hn3 x3 A3 D3
  obtain ⟨a3, ea3⟩ : ∃ q, q = hc2.size := ⟨_, rfl⟩
  rw [← ea3] at A3 D3 ⊢
  have z3n := x3.1
  have g3 : n0 ≤ a3 := by omega
  have nea1_3 : a1 ≠ a3 := by have := V1.lt; omega
  replace V1 := V1.ext x3
  have nea2_3 : a2 ≠ a3 := by have := V2.lt; omega
  replace V2 := V2.ext x3
  refine go_dup C (pc' := 32) at_31 rfl rfl ?_
  refine go_lload C (pc' := 34) at_32 rfl rfl ?_
  refine go_lloadN C (pc' := 35) at_34 rfl rfl ?_
  refine go_lload C (pc' := 37) at_35 rfl rfl ?_
  refine go_callC C (pc' := 40) (k' := 3) (n' := 9) (argsL := [(.long l2), (.long e1), (.long z1)]) (rest := [(.ref a3)]) (own_w hw (i := 3) rfl) (own_w hw (i := 4) rfl) (own_w hw (i := 2) rfl) (own_w hw (i := 5) rfl) rfl (rmC Z a0 hw a3 l2 e1 z1 hn3 n0 g3 A3 (D3 (Or.inr (own_w hw (i := 15) rfl)) (ty := .long) (by decide)) (D3 (Or.inr (own_w hw (i := 17) rfl)) (ty := .long) (by decide)) (D3 (Or.inr (own_w hw (i := 19) rfl)) (ty := .long) (by decide))) at_37 rfl rfl (lenOf pd0 rfl) (by decide) (by decide) 1 rfl (by decide) rfl rfl (by decide) (by decide) rfl ?_
  rintro _ hc3 ⟨rfl, K3, V3⟩
  replace V1 := V1.keep K3 (ninS nea1_3 nin0)
  replace V2 := V2.keep K3 (ninS nea2_3 nin0)
  have z3c := K3.1
  show Go E room_1 n0 Q1 hc3 3 9 40 #[.val (.long l1), .second, .val (.long e1), .second, .val (.long z1), .second, .val (.long l2), .second, .val (.long e2), .second, .val (.long z2), .second, .val (.ref a1), .val (.ref a2), .unset, .unset, .unset] [(.ref a3)]
  refine go_astore C (pc' := 42) (Ls' := #[.val (.long l1), .second, .val (.long e1), .second, .val (.long z1), .second, .val (.long l2), .second, .val (.long e2), .second, .val (.long z2), .second, .val (.ref a1), .val (.ref a2), .val (.ref a3), .unset, .unset]) at_40 rfl rfl rfl ?_
  refine go_newO C (pc' := 45) (k' := 4) (n' := 12) (own_w hw (i := 0) rfl) (own_w hw (i := 1) rfl) (own_w hw (i := 2) rfl) at_42 rfl rfl (by decide) (by decide) rfl ?_
  intro hn4 x4 A4 D4
  obtain ⟨a4, ea4⟩ : ∃ q, q = hc3.size := ⟨_, rfl⟩
  rw [← ea4] at A4 D4 ⊢
  have z4n := x4.1
  have g4 : n0 ≤ a4 := by omega
  have nea1_4 : a1 ≠ a4 := by have := V1.lt; omega
  replace V1 := V1.ext x4
  have nea2_4 : a2 ≠ a4 := by have := V2.lt; omega
  replace V2 := V2.ext x4
  have nea3_4 : a3 ≠ a4 := by have := V3.lt; omega
  replace V3 := V3.ext x4
  refine go_dup C (pc' := 46) at_45 rfl rfl ?_
  refine go_lload C (pc' := 48) at_46 rfl rfl ?_
  refine go_lloadN C (pc' := 49) at_48 rfl rfl ?_
  refine go_lload C (pc' := 51) at_49 rfl rfl ?_
  refine go_callC C (pc' := 54) (k' := 4) (n' := 12) (argsL := [(.long l2), (.long e1), (.long z2)]) (rest := [(.ref a4)]) (own_w hw (i := 3) rfl) (own_w hw (i := 4) rfl) (own_w hw (i := 2) rfl) (own_w hw (i := 5) rfl) rfl (rmC Z a0 hw a4 l2 e1 z2 hn4 n0 g4 A4 (D4 (Or.inr (own_w hw (i := 15) rfl)) (ty := .long) (by decide)) (D4 (Or.inr (own_w hw (i := 17) rfl)) (ty := .long) (by decide)) (D4 (Or.inr (own_w hw (i := 19) rfl)) (ty := .long) (by decide))) at_51 rfl rfl (lenOf pd0 rfl) (by decide) (by decide) 1 rfl (by decide) rfl rfl (by decide) (by decide) rfl ?_
  rintro _ hc4 ⟨rfl, K4, V4⟩
  replace V1 := V1.keep K4 (ninS nea1_4 nin0)
  replace V2 := V2.keep K4 (ninS nea2_4 nin0)
  replace V3 := V3.keep K4 (ninS nea3_4 nin0)
  have z4c := K4.1
  show Go E room_1 n0 Q1 hc4 4 12 54 #[.val (.long l1), .second, .val (.long e1), .second, .val (.long z1), .second, .val (.long l2), .second, .val (.long e2), .second, .val (.long z2), .second, .val (.ref a1), .val (.ref a2), .val (.ref a3), .unset, .unset] [(.ref a4)]
  refine go_astore C (pc' := 56) (Ls' := #[.val (.long l1), .second, .val (.long e1), .second, .val (.long z1), .second, .val (.long l2), .second, .val (.long e2), .second, .val (.long z2), .second, .val (.ref a1), .val (.ref a2), .val (.ref a3), .val (.ref a4), .unset]) at_54 rfl rfl rfl ?_
  refine go_aload C (pc' := 58) at_56 rfl rfl rfl ?_
  refine go_aload C (pc' := 60) at_58 rfl rfl rfl ?_
  refine go_callV C (pc' := 63) (k' := 4) (n' := 12) (argsL := [(.ref a2)]) (rest := []) (own_w hw (i := 20) rfl) (own_w hw (i := 21) rfl) (own_w hw (i := 23) rfl) (own_w hw (i := 22) rfl) (own_w hw (i := 2) rfl) (own_w hw (i := 24) rfl) (V1.1) (rmB Z a0 hw a1 a2 l1 e1 z1 l2 e2 z2 hc4 n0 V1 V2) at_60 rfl rfl (lenOf pd2 rfl) (by decide) (by decide) 0 rfl (by decide) rfl rfl (by decide) (by decide) rfl ?_
  rintro _ _ ⟨rfl, rfl⟩
  show Go E room_1 n0 Q1 hc4 4 12 63 #[.val (.long l1), .second, .val (.long e1), .second, .val (.long z1), .second, .val (.long l2), .second, .val (.long e2), .second, .val (.long z2), .second, .val (.ref a1), .val (.ref a2), .val (.ref a3), .val (.ref a4), .unset] [(.int (ind (bet l1 e1 z1 l2 e2 z2)))]
  refine go_lloadN C (pc' := 64) at_63 rfl rfl ?_
  refine go_lloadN C (pc' := 65) at_64 rfl rfl ?_
  refine go_lload C (pc' := 67) at_65 rfl rfl ?_
  refine go_lload C (pc' := 69) at_67 rfl rfl ?_
  refine go_lload C (pc' := 71) at_69 rfl rfl ?_
  refine go_lload C (pc' := 73) at_71 rfl rfl ?_
  refine go_callS C (pc' := 76) (k' := 4) (n' := 12) (argsL := [(.long l1), (.long e1), (.long z1), (.long l2), (.long e2), (.long z2)]) (rest := [(.int (ind (bet l1 e1 z1 l2 e2 z2)))]) (own_w hw (i := 25) rfl) (own_w hw (i := 26) rfl) (own_w hw (i := 27) rfl) (own_w hw (i := 28) rfl) (rmF Z l1 e1 z1 l2 e2 z2 hc4 n0) at_73 rfl rfl (lenOf pd3 rfl) (by decide) (by decide) 1 rfl (by decide) rfl rfl (by decide) (by decide) rfl ?_
  rintro _ _ ⟨rfl, rfl⟩
  show Go E room_1 n0 Q1 hc4 4 12 76 #[.val (.long l1), .second, .val (.long e1), .second, .val (.long z1), .second, .val (.long l2), .second, .val (.long e2), .second, .val (.long z2), .second, .val (.ref a1), .val (.ref a2), .val (.ref a3), .val (.ref a4), .unset] [(.int (ind (bet l1 e1 z1 l2 e2 z2))), (.int (ind (bet l1 e1 z1 l2 e2 z2)))]
  refine go_icN C (pc' := 79) at_76 (teq rfl).2 rfl ?_
  refine go_iconst C (pc' := 80) (z := 1) at_79 rfl rfl ?_
  refine go_goto C (pc' := 84) at_80 (by decide) (by decide) ?_
  refine go_istore C (pc' := 86) (Ls' := #[.val (.long l1), .second, .val (.long e1), .second, .val (.long z1), .second, .val (.long l2), .second, .val (.long e2), .second, .val (.long z2), .second, .val (.ref a1), .val (.ref a2), .val (.ref a3), .val (.ref a4), .val (.int (1 : Int32))]) at_84 rfl rfl ?_
  refine go_iload C (pc' := 88) at_86 rfl rfl ?_
  refine go_ifN C (pc' := 91) at_88 rfl rfl ?_
  refine go_aload C (pc' := 93) at_91 rfl rfl rfl ?_
  refine go_aload C (pc' := 95) at_93 rfl rfl rfl ?_
  refine go_callV C (pc' := 98) (k' := 4) (n' := 12) (argsL := [(.ref a1)]) (rest := []) (own_w hw (i := 20) rfl) (own_w hw (i := 21) rfl) (own_w hw (i := 23) rfl) (own_w hw (i := 22) rfl) (own_w hw (i := 2) rfl) (own_w hw (i := 24) rfl) (V2.1) (rmB Z a0 hw a2 a1 l2 e2 z2 l1 e1 z1 hc4 n0 V2 V1) at_95 rfl rfl (lenOf pd2 rfl) (by decide) (by decide) 0 rfl (by decide) rfl rfl (by decide) (by decide) rfl ?_
  rintro _ _ ⟨rfl, rfl⟩
  show Go E room_1 n0 Q1 hc4 4 12 98 #[.val (.long l1), .second, .val (.long e1), .second, .val (.long z1), .second, .val (.long l2), .second, .val (.long e2), .second, .val (.long z2), .second, .val (.ref a1), .val (.ref a2), .val (.ref a3), .val (.ref a4), .val (.int (1 : Int32))] [(.int (ind (bet l2 e2 z2 l1 e1 z1)))]
  refine go_lload C (pc' := 100) at_98 rfl rfl ?_
  refine go_lload C (pc' := 102) at_100 rfl rfl ?_
  refine go_lload C (pc' := 104) at_102 rfl rfl ?_
  refine go_lloadN C (pc' := 105) at_104 rfl rfl ?_
  refine go_lloadN C (pc' := 106) at_105 rfl rfl ?_
  refine go_lload C (pc' := 108) at_106 rfl rfl ?_
  refine go_callS C (pc' := 111) (k' := 4) (n' := 12) (argsL := [(.long l2), (.long e2), (.long z2), (.long l1), (.long e1), (.long z1)]) (rest := [(.int (ind (bet l2 e2 z2 l1 e1 z1)))]) (own_w hw (i := 25) rfl) (own_w hw (i := 26) rfl) (own_w hw (i := 27) rfl) (own_w hw (i := 28) rfl) (rmF Z l2 e2 z2 l1 e1 z1 hc4 n0) at_108 rfl rfl (lenOf pd3 rfl) (by decide) (by decide) 1 rfl (by decide) rfl rfl (by decide) (by decide) rfl ?_
  rintro _ _ ⟨rfl, rfl⟩
  show Go E room_1 n0 Q1 hc4 4 12 111 #[.val (.long l1), .second, .val (.long e1), .second, .val (.long z1), .second, .val (.long l2), .second, .val (.long e2), .second, .val (.long z2), .second, .val (.ref a1), .val (.ref a2), .val (.ref a3), .val (.ref a4), .val (.int (1 : Int32))] [(.int (ind (bet l2 e2 z2 l1 e1 z1))), (.int (ind (bet l2 e2 z2 l1 e1 z1)))]
  refine go_icN C (pc' := 114) at_111 (teq rfl).2 rfl ?_
  refine go_iconst C (pc' := 115) (z := 1) at_114 rfl rfl ?_
  refine go_goto C (pc' := 119) at_115 (by decide) (by decide) ?_
  refine go_istore C (pc' := 121) (Ls' := #[.val (.long l1), .second, .val (.long e1), .second, .val (.long z1), .second, .val (.long l2), .second, .val (.long e2), .second, .val (.long z2), .second, .val (.ref a1), .val (.ref a2), .val (.ref a3), .val (.ref a4), .val (.int (1 : Int32))]) at_119 rfl rfl ?_
  refine go_iload C (pc' := 123) at_121 rfl rfl ?_
  refine go_ifN C (pc' := 126) at_123 rfl rfl ?_
  refine go_aload C (pc' := 128) at_126 rfl rfl rfl ?_
  refine go_aload C (pc' := 130) at_128 rfl rfl rfl ?_
  refine go_callV C (pc' := 133) (k' := 4) (n' := 12) (argsL := [(.ref a3)]) (rest := []) (own_w hw (i := 20) rfl) (own_w hw (i := 21) rfl) (own_w hw (i := 23) rfl) (own_w hw (i := 22) rfl) (own_w hw (i := 2) rfl) (own_w hw (i := 24) rfl) (V1.1) (rmB Z a0 hw a1 a3 l1 e1 z1 l2 e1 z1 hc4 n0 V1 V3) at_130 rfl rfl (lenOf pd2 rfl) (by decide) (by decide) 0 rfl (by decide) rfl rfl (by decide) (by decide) rfl ?_
  rintro _ _ ⟨rfl, rfl⟩
  show Go E room_1 n0 Q1 hc4 4 12 133 #[.val (.long l1), .second, .val (.long e1), .second, .val (.long z1), .second, .val (.long l2), .second, .val (.long e2), .second, .val (.long z2), .second, .val (.ref a1), .val (.ref a2), .val (.ref a3), .val (.ref a4), .val (.int (1 : Int32))] [(.int (ind (bet l1 e1 z1 l2 e1 z1)))]
  refine go_lloadN C (pc' := 134) at_133 rfl rfl ?_
  refine go_lloadN C (pc' := 135) at_134 rfl rfl ?_
  refine go_lload C (pc' := 137) at_135 rfl rfl ?_
  refine go_lload C (pc' := 139) at_137 rfl rfl ?_
  refine go_lloadN C (pc' := 140) at_139 rfl rfl ?_
  refine go_lload C (pc' := 142) at_140 rfl rfl ?_
  refine go_callS C (pc' := 145) (k' := 4) (n' := 12) (argsL := [(.long l1), (.long e1), (.long z1), (.long l2), (.long e1), (.long z1)]) (rest := [(.int (ind (bet l1 e1 z1 l2 e1 z1)))]) (own_w hw (i := 25) rfl) (own_w hw (i := 26) rfl) (own_w hw (i := 27) rfl) (own_w hw (i := 28) rfl) (rmF Z l1 e1 z1 l2 e1 z1 hc4 n0) at_142 rfl rfl (lenOf pd3 rfl) (by decide) (by decide) 1 rfl (by decide) rfl rfl (by decide) (by decide) rfl ?_
  rintro _ _ ⟨rfl, rfl⟩
  show Go E room_1 n0 Q1 hc4 4 12 145 #[.val (.long l1), .second, .val (.long e1), .second, .val (.long z1), .second, .val (.long l2), .second, .val (.long e2), .second, .val (.long z2), .second, .val (.ref a1), .val (.ref a2), .val (.ref a3), .val (.ref a4), .val (.int (1 : Int32))] [(.int (ind (bet l1 e1 z1 l2 e1 z1))), (.int (ind (bet l1 e1 z1 l2 e1 z1)))]
  refine go_icN C (pc' := 148) at_145 (teq rfl).2 rfl ?_
  refine go_iconst C (pc' := 149) (z := 1) at_148 rfl rfl ?_
  refine go_goto C (pc' := 153) at_149 (by decide) (by decide) ?_
  refine go_istore C (pc' := 155) (Ls' := #[.val (.long l1), .second, .val (.long e1), .second, .val (.long z1), .second, .val (.long l2), .second, .val (.long e2), .second, .val (.long z2), .second, .val (.ref a1), .val (.ref a2), .val (.ref a3), .val (.ref a4), .val (.int (1 : Int32))]) at_153 rfl rfl ?_
  refine go_iload C (pc' := 157) at_155 rfl rfl ?_
  refine go_ifN C (pc' := 160) at_157 rfl rfl ?_
  refine go_aload C (pc' := 162) at_160 rfl rfl rfl ?_
  refine go_aload C (pc' := 164) at_162 rfl rfl rfl ?_
  refine go_callV C (pc' := 167) (k' := 4) (n' := 12) (argsL := [(.ref a1)]) (rest := []) (own_w hw (i := 20) rfl) (own_w hw (i := 21) rfl) (own_w hw (i := 23) rfl) (own_w hw (i := 22) rfl) (own_w hw (i := 2) rfl) (own_w hw (i := 24) rfl) (V3.1) (rmB Z a0 hw a3 a1 l2 e1 z1 l1 e1 z1 hc4 n0 V3 V1) at_164 rfl rfl (lenOf pd2 rfl) (by decide) (by decide) 0 rfl (by decide) rfl rfl (by decide) (by decide) rfl ?_
  rintro _ _ ⟨rfl, rfl⟩
  show Go E room_1 n0 Q1 hc4 4 12 167 #[.val (.long l1), .second, .val (.long e1), .second, .val (.long z1), .second, .val (.long l2), .second, .val (.long e2), .second, .val (.long z2), .second, .val (.ref a1), .val (.ref a2), .val (.ref a3), .val (.ref a4), .val (.int (1 : Int32))] [(.int (ind (bet l2 e1 z1 l1 e1 z1)))]
  refine go_lload C (pc' := 169) at_167 rfl rfl ?_
  refine go_lloadN C (pc' := 170) at_169 rfl rfl ?_
  refine go_lload C (pc' := 172) at_170 rfl rfl ?_
  refine go_lloadN C (pc' := 173) at_172 rfl rfl ?_
  refine go_lloadN C (pc' := 174) at_173 rfl rfl ?_
  refine go_lload C (pc' := 176) at_174 rfl rfl ?_
  refine go_callS C (pc' := 179) (k' := 4) (n' := 12) (argsL := [(.long l2), (.long e1), (.long z1), (.long l1), (.long e1), (.long z1)]) (rest := [(.int (ind (bet l2 e1 z1 l1 e1 z1)))]) (own_w hw (i := 25) rfl) (own_w hw (i := 26) rfl) (own_w hw (i := 27) rfl) (own_w hw (i := 28) rfl) (rmF Z l2 e1 z1 l1 e1 z1 hc4 n0) at_176 rfl rfl (lenOf pd3 rfl) (by decide) (by decide) 1 rfl (by decide) rfl rfl (by decide) (by decide) rfl ?_
  rintro _ _ ⟨rfl, rfl⟩
  show Go E room_1 n0 Q1 hc4 4 12 179 #[.val (.long l1), .second, .val (.long e1), .second, .val (.long z1), .second, .val (.long l2), .second, .val (.long e2), .second, .val (.long z2), .second, .val (.ref a1), .val (.ref a2), .val (.ref a3), .val (.ref a4), .val (.int (1 : Int32))] [(.int (ind (bet l2 e1 z1 l1 e1 z1))), (.int (ind (bet l2 e1 z1 l1 e1 z1)))]
  refine go_icN C (pc' := 182) at_179 (teq rfl).2 rfl ?_
  refine go_iconst C (pc' := 183) (z := 1) at_182 rfl rfl ?_
  refine go_goto C (pc' := 187) at_183 (by decide) (by decide) ?_
  refine go_istore C (pc' := 189) (Ls' := #[.val (.long l1), .second, .val (.long e1), .second, .val (.long z1), .second, .val (.long l2), .second, .val (.long e2), .second, .val (.long z2), .second, .val (.ref a1), .val (.ref a2), .val (.ref a3), .val (.ref a4), .val (.int (1 : Int32))]) at_187 rfl rfl ?_
  refine go_iload C (pc' := 191) at_189 rfl rfl ?_
  refine go_ifN C (pc' := 194) at_191 rfl rfl ?_
  refine go_aload C (pc' := 196) at_194 rfl rfl rfl ?_
  refine go_aload C (pc' := 198) at_196 rfl rfl rfl ?_
  refine go_callV C (pc' := 201) (k' := 4) (n' := 12) (argsL := [(.ref a4)]) (rest := []) (own_w hw (i := 20) rfl) (own_w hw (i := 21) rfl) (own_w hw (i := 23) rfl) (own_w hw (i := 22) rfl) (own_w hw (i := 2) rfl) (own_w hw (i := 24) rfl) (V1.1) (rmB Z a0 hw a1 a4 l1 e1 z1 l2 e1 z2 hc4 n0 V1 V4) at_198 rfl rfl (lenOf pd2 rfl) (by decide) (by decide) 0 rfl (by decide) rfl rfl (by decide) (by decide) rfl ?_
  rintro _ _ ⟨rfl, rfl⟩
  show Go E room_1 n0 Q1 hc4 4 12 201 #[.val (.long l1), .second, .val (.long e1), .second, .val (.long z1), .second, .val (.long l2), .second, .val (.long e2), .second, .val (.long z2), .second, .val (.ref a1), .val (.ref a2), .val (.ref a3), .val (.ref a4), .val (.int (1 : Int32))] [(.int (ind (bet l1 e1 z1 l2 e1 z2)))]
  refine go_lloadN C (pc' := 202) at_201 rfl rfl ?_
  refine go_lloadN C (pc' := 203) at_202 rfl rfl ?_
  refine go_lload C (pc' := 205) at_203 rfl rfl ?_
  refine go_lload C (pc' := 207) at_205 rfl rfl ?_
  refine go_lloadN C (pc' := 208) at_207 rfl rfl ?_
  refine go_lload C (pc' := 210) at_208 rfl rfl ?_
  refine go_callS C (pc' := 213) (k' := 4) (n' := 12) (argsL := [(.long l1), (.long e1), (.long z1), (.long l2), (.long e1), (.long z2)]) (rest := [(.int (ind (bet l1 e1 z1 l2 e1 z2)))]) (own_w hw (i := 25) rfl) (own_w hw (i := 26) rfl) (own_w hw (i := 27) rfl) (own_w hw (i := 28) rfl) (rmF Z l1 e1 z1 l2 e1 z2 hc4 n0) at_210 rfl rfl (lenOf pd3 rfl) (by decide) (by decide) 1 rfl (by decide) rfl rfl (by decide) (by decide) rfl ?_
  rintro _ _ ⟨rfl, rfl⟩
  show Go E room_1 n0 Q1 hc4 4 12 213 #[.val (.long l1), .second, .val (.long e1), .second, .val (.long z1), .second, .val (.long l2), .second, .val (.long e2), .second, .val (.long z2), .second, .val (.ref a1), .val (.ref a2), .val (.ref a3), .val (.ref a4), .val (.int (1 : Int32))] [(.int (ind (bet l1 e1 z1 l2 e1 z2))), (.int (ind (bet l1 e1 z1 l2 e1 z2)))]
  refine go_icN C (pc' := 216) at_213 (teq rfl).2 rfl ?_
  refine go_iconst C (pc' := 217) (z := 1) at_216 rfl rfl ?_
  refine go_goto C (pc' := 221) at_217 (by decide) (by decide) ?_
  refine go_istore C (pc' := 223) (Ls' := #[.val (.long l1), .second, .val (.long e1), .second, .val (.long z1), .second, .val (.long l2), .second, .val (.long e2), .second, .val (.long z2), .second, .val (.ref a1), .val (.ref a2), .val (.ref a3), .val (.ref a4), .val (.int (1 : Int32))]) at_221 rfl rfl ?_
  refine go_iload C (pc' := 225) at_223 rfl rfl ?_
  refine go_ifN C (pc' := 228) at_225 rfl rfl ?_
  refine go_aload C (pc' := 230) at_228 rfl rfl rfl ?_
  refine go_aload C (pc' := 232) at_230 rfl rfl rfl ?_
  refine go_callV C (pc' := 235) (k' := 4) (n' := 12) (argsL := [(.ref a1)]) (rest := []) (own_w hw (i := 20) rfl) (own_w hw (i := 21) rfl) (own_w hw (i := 23) rfl) (own_w hw (i := 22) rfl) (own_w hw (i := 2) rfl) (own_w hw (i := 24) rfl) (V4.1) (rmB Z a0 hw a4 a1 l2 e1 z2 l1 e1 z1 hc4 n0 V4 V1) at_232 rfl rfl (lenOf pd2 rfl) (by decide) (by decide) 0 rfl (by decide) rfl rfl (by decide) (by decide) rfl ?_
  rintro _ _ ⟨rfl, rfl⟩
  show Go E room_1 n0 Q1 hc4 4 12 235 #[.val (.long l1), .second, .val (.long e1), .second, .val (.long z1), .second, .val (.long l2), .second, .val (.long e2), .second, .val (.long z2), .second, .val (.ref a1), .val (.ref a2), .val (.ref a3), .val (.ref a4), .val (.int (1 : Int32))] [(.int (ind (bet l2 e1 z2 l1 e1 z1)))]
  refine go_lload C (pc' := 237) at_235 rfl rfl ?_
  refine go_lloadN C (pc' := 238) at_237 rfl rfl ?_
  refine go_lload C (pc' := 240) at_238 rfl rfl ?_
  refine go_lloadN C (pc' := 241) at_240 rfl rfl ?_
  refine go_lloadN C (pc' := 242) at_241 rfl rfl ?_
  refine go_lload C (pc' := 244) at_242 rfl rfl ?_
  refine go_callS C (pc' := 247) (k' := 4) (n' := 12) (argsL := [(.long l2), (.long e1), (.long z2), (.long l1), (.long e1), (.long z1)]) (rest := [(.int (ind (bet l2 e1 z2 l1 e1 z1)))]) (own_w hw (i := 25) rfl) (own_w hw (i := 26) rfl) (own_w hw (i := 27) rfl) (own_w hw (i := 28) rfl) (rmF Z l2 e1 z2 l1 e1 z1 hc4 n0) at_244 rfl rfl (lenOf pd3 rfl) (by decide) (by decide) 1 rfl (by decide) rfl rfl (by decide) (by decide) rfl ?_
  rintro _ _ ⟨rfl, rfl⟩
  show Go E room_1 n0 Q1 hc4 4 12 247 #[.val (.long l1), .second, .val (.long e1), .second, .val (.long z1), .second, .val (.long l2), .second, .val (.long e2), .second, .val (.long z2), .second, .val (.ref a1), .val (.ref a2), .val (.ref a3), .val (.ref a4), .val (.int (1 : Int32))] [(.int (ind (bet l2 e1 z2 l1 e1 z1))), (.int (ind (bet l2 e1 z2 l1 e1 z1)))]
  refine go_icN C (pc' := 250) at_247 (teq rfl).2 rfl ?_
  refine go_iconst C (pc' := 251) (z := 1) at_250 rfl rfl ?_
  refine go_goto C (pc' := 255) at_251 (by decide) (by decide) ?_
  refine go_istore C (pc' := 257) (Ls' := #[.val (.long l1), .second, .val (.long e1), .second, .val (.long z1), .second, .val (.long l2), .second, .val (.long e2), .second, .val (.long z2), .second, .val (.ref a1), .val (.ref a2), .val (.ref a3), .val (.ref a4), .val (.int (1 : Int32))]) at_255 rfl rfl ?_
  refine go_iload C (pc' := 259) at_257 rfl rfl ?_
  refine go_ifN C (pc' := 262) at_259 rfl rfl ?_
  refine go_aload C (pc' := 264) at_262 rfl rfl rfl ?_
  refine go_aload C (pc' := 266) at_264 rfl rfl rfl ?_
  refine go_callV C (pc' := 269) (k' := 4) (n' := 12) (argsL := [(.ref a1)]) (rest := []) (own_w hw (i := 20) rfl) (own_w hw (i := 21) rfl) (own_w hw (i := 23) rfl) (own_w hw (i := 22) rfl) (own_w hw (i := 2) rfl) (own_w hw (i := 24) rfl) (V1.1) (rmB Z a0 hw a1 a1 l1 e1 z1 l1 e1 z1 hc4 n0 V1 V1) at_266 rfl rfl (lenOf pd2 rfl) (by decide) (by decide) 0 rfl (by decide) rfl rfl (by decide) (by decide) rfl ?_
  rintro _ _ ⟨rfl, rfl⟩
  rw [show ind (bet l1 e1 z1 l1 e1 z1) = 0 from if_neg (by omega)]
  show Go E room_1 n0 Q1 hc4 4 12 269 #[.val (.long l1), .second, .val (.long e1), .second, .val (.long z1), .second, .val (.long l2), .second, .val (.long e2), .second, .val (.long z2), .second, .val (.ref a1), .val (.ref a2), .val (.ref a3), .val (.ref a4), .val (.int (1 : Int32))] [(.int (0 : Int32))]
  refine go_ifN C (pc' := 272) at_269 rfl rfl ?_
  refine go_iconst C (pc' := 273) (z := 1) at_272 rfl rfl ?_
  refine go_goto C (pc' := 277) at_273 (by decide) (by decide) ?_
  refine go_istore C (pc' := 279) (Ls' := #[.val (.long l1), .second, .val (.long e1), .second, .val (.long z1), .second, .val (.long l2), .second, .val (.long e2), .second, .val (.long z2), .second, .val (.ref a1), .val (.ref a2), .val (.ref a3), .val (.ref a4), .val (.int (1 : Int32))]) at_277 rfl rfl ?_
  refine go_iload C (pc' := 281) at_279 rfl rfl ?_
  refine go_retZ C at_281 (by decide) (by decide) (by decide) ?_
  exact rfl
set_option maxRecDepth 65536 in
set_option maxHeartbeats 4000000 in
theorem comes_1 {Post : Tables → Env → Array Value → State → Outcome → State → Prop} (hpost : ∀ tb e args s v u, (limb_1_1.after args s (.returned v) u = true ∧ limb_1_2.after args s (.returned v) u = true ∧ True) → FrameEnd s (.returned v) u (Jvm.fieldLocs frame_1_writes args s ++ Jvm.arrayLocs frame_1_arrays args s ++ Jvm.staticLocs frame_1_statics s) 16 128 → Post tb e args s (.returned v) u) :
    ArmFor flags0 classFile x code maxLocals ret World_1 tables_1 room_1 Calls_1 rest_1 Pre_1 Post := by
  intro l hfl _ _ p e ha hc hk s m args below hf hA hF happ hP
  obtain ⟨hcalls, hrest, hpre⟩ := hP
  obtain ⟨-, -, -, hnamed, -, -, -, hat⟩ := (Spec.applies_iff hf).mp happ
  obtain ⟨hg, hn⟩ := and_e (Cond.before_iff.mp (show (Jvm.Cond.and given_1 narrow_1).before args s = true from hpre))
  obtain ⟨hcnt, g0⟩ := and_e hg
  obtain ⟨f0, g1⟩ := and_e g0
  obtain ⟨f1, g2⟩ := and_e g1
  obtain ⟨f2, g3⟩ := and_e g2
  obtain ⟨f3, g4⟩ := and_e g3
  obtain ⟨f4, g5⟩ := and_e g4
  obtain ⟨w0, w1, w2, w3, w4, w5, rfl⟩ : ∃ w0 w1 w2 w3 w4 w5 : Value, args = #[w0, w1, w2, w3, w4, w5] := by
    have hs : args.size = 6 := by simpa [Cond.value, given_1] using hcnt
    obtain ⟨L⟩ := args
    match L, hs with
    | [w0, w1, w2, w3, w4, w5], _ => exact ⟨w0, w1, w2, w3, w4, w5, rfl⟩
  have hw := fun d (hd : d ∈ tables_1) => atoms_spec (ws := Jvm.Cond.code x code maxLocals ret :: tables_1) hat d (List.mem_cons_of_mem _ hd)
  obtain ⟨i0, e0⟩ := isL_v f0
  obtain rfl : w0 = (.long i0) := Option.some.inj e0
  obtain ⟨i1, e1⟩ := isL_v f1
  obtain rfl : w1 = (.long i1) := Option.some.inj e1
  obtain ⟨i2, e2⟩ := isL_v f2
  obtain rfl : w2 = (.long i2) := Option.some.inj e2
  obtain ⟨i3, e3⟩ := isL_v f3
  obtain rfl : w3 = (.long i3) := Option.some.inj e3
  obtain ⟨i4, e4⟩ := isL_v f4
  obtain rfl : w4 = (.long i4) := Option.some.inj e4
  obtain ⟨i5, e5⟩ := isL_v g5
  obtain rfl : w5 = (.long i5) := Option.some.inj e5
  obtain ⟨n, o, h1, h2, h3, _, L, rfl, ⟨rfl, N⟩, hq⟩ := rm0 s _ hw i0 i1 i2 i3 i4 i5 s.heap s.heap.size (Nat.le_refl _) l tables_1 p e ha hc hk s m _ below hf ((Spec.applies_iff_loose hf).mp happ).1 ⟨rfl, State.Warmed39.refl s, rfl⟩ trivial
  refine ⟨n, _, h1, h2, h3, hpost _ _ _ _ _ _ ⟨Cond.after_iff.mpr rfl, Cond.after_iff.mpr (eq_i res_at (Term.int_eval (1)) rfl), trivial⟩ ⟨hq.1, hq.2.1, (hq.2.2.sift fun y hy => Or.inr (N y hy)).mono (by decide) (by decide)⟩⟩
theorem main_1_1 : Claimed_1_1 := comes_1 fun _ _ _ _ _ _ h hF => ⟨h.1, hF⟩
theorem main_1_2 : Claimed_1_2 := comes_1 fun _ _ _ _ _ _ h hF => ⟨h.2.1, hF⟩
end Jvm.Pilot.@@N@@
namespace Jvm.Pilot.@@N@@
open Jvm Jvm.ClassFile Sem Op Lib Jvm.Free Jvm.Stand Jvm.Pilot.@@N@@.Jvm.D
/-! MADE BY PROGRAM (witnessworld.py) out of the Statement's table words and the real class files: 10 classes; the members and pool entries that the words name. The judged class is class 1, her method 2. -/
namespace start1
open Jvm.ClassFile
def u (s : String) : CpInfo := .utf8 (stringToUtf16 s)
/-- a pool by its gaps: so many unusable entries, then the entry; so many at the end -/
def gap : Nat → List CpInfo → List CpInfo
  | 0, r => r
  | n + 1, r => .unusable :: gap n r
def poolList (es : List (Nat × CpInfo)) (last : Nat) : List CpInfo := es.foldr (fun e r => gap e.1 (e.2 :: r)) (gap last [])
def pool (es : List (Nat × CpInfo)) (last : Nat) : Array CpInfo := ⟨poolList es last⟩
def fileOf (pool : Array CpInfo) (this : Nat) (attrs : Array Attribute := #[]) (ms : Array MethodInfo := #[]) (fl : Nat := 33) (sup : Nat := 0) (ifs : Array Nat := #[]) (fds : Array FieldInfo := #[]) : ClassFile where
  minorVersion := 0
  majorVersion := 65
  constantPool := pool
  accessFlags := fl
  thisClass := this
  superClass := sup
  interfaces := ifs
  fields := fds
  methods := ms
  attributes := attrs
def plain (name : String) (sup : Option ClassId) : Class where
  name := name
  kind := .ordinary
  loader := none
  accessFlags := 33
  super := sup
  interfaces := #[]
  cf := none
  fields := #[]
  methods := #[]
  instanceTypes := #[]
  staticTypes := #[]
  resolved := #[]
  callSites := []
  init := .initialized
  statics := none
  mirror := none

def pool0 : Array CpInfo := pool [(5, u "<init>"), (0, u "()V"), (1, .class_ 10), (1, u "java/lang/Object")] 113

def k0c0 : Code := { maxStack := 0, maxLocals := 1, code := object_method_1_code, exceptionTable := #[], attributes := #[] }
def k0m0 : Method := { name := "<init>", desc := "()V", sig := { parameters := [], returnType := none }, accessFlags := 1, code := some k0c0 }
/-- java/lang/Object -/
def k0 : Class := { plain "java/lang/Object" none with
  accessFlags := 33
  interfaces := #[]
  cf := some (fileOf pool0 8 #[] #[{ accessFlags := 1, nameIndex := 5, descriptorIndex := 6, attributes := #[] }] 33 0 #[] #[])
  fields := #[]
  methods := #[k0m0]
  instanceTypes := #[]
  staticTypes := #[]
  resolved := Array.replicate 124 none
  statics := none }

def pool1 : Array CpInfo := pool [(2, .class_ 4), (1, u "java/lang/Object"), (0, u "<init>"), (0, u "()V"), (0, .class_ 8), (0, u "com/example/langouste/langouste/quorum/Vote"), (0, .methodref 7 10), (0, .nameAndType 5 11), (0, u "(JJJ)V"), (0, .methodref 7 13), (0, .nameAndType 14 15), (0, u "isBetterThan"), (0, u "(Lcom/example/langouste/langouste/quorum/Vote;)Z"), (0, .methodref 17 18), (0, .class_ 19), (0, .nameAndType 20 21), (0, u "com/example/langouste/langouste/quorum/VoteIsBetterThanPinLaw"), (0, u "ref"), (0, u "(JJJJJJ)Z"), (3, u "law")] 2

def k1m0 : Method := { name := "<init>", desc := "()V", sig := { parameters := [], returnType := none }, accessFlags := 1, code := none }
def k1c1 : Code := { maxStack := 4, maxLocals := 12, code := method_2_code, exceptionTable := #[], attributes := #[] }
def k1m1 : Method := { name := "ref", desc := "(JJJJJJ)Z", sig := { parameters := [.long, .long, .long, .long, .long, .long], returnType := some .boolean }, accessFlags := 10, code := some k1c1 }
def k1c2 : Code := { maxStack := 13, maxLocals := 17, code := code, exceptionTable := #[], attributes := #[] }
def k1m2 : Method := { name := "law", desc := "(JJJJJJ)Z", sig := { parameters := [.long, .long, .long, .long, .long, .long], returnType := some .boolean }, accessFlags := 9, code := some k1c2 }
/-- com/example/langouste/langouste/quorum/VoteIsBetterThanPinLaw -/
def k1 : Class := { plain "com/example/langouste/langouste/quorum/VoteIsBetterThanPinLaw" (some 0) with
  accessFlags := 49
  interfaces := #[]
  cf := some (fileOf pool1 17 #[] #[{ accessFlags := 1, nameIndex := 5, descriptorIndex := 6, attributes := #[] }, { accessFlags := 10, nameIndex := 20, descriptorIndex := 21, attributes := #[] }, { accessFlags := 9, nameIndex := 25, descriptorIndex := 21, attributes := #[] }] 49 2 #[] #[])
  fields := #[]
  methods := #[k1m0, k1m1, k1m2]
  instanceTypes := #[]
  staticTypes := #[]
  resolved := Array.replicate 28 none
  statics := none }

def pool2 : Array CpInfo := pool [(1, .methodref 2 3), (0, .class_ 4), (0, .nameAndType 5 6), (0, u "java/lang/Object"), (0, u "<init>"), (0, u "()V"), (0, .class_ 8), (0, u "java/lang/Record")] 13

def k2c0 : Code := { maxStack := 1, maxLocals := 1, code := jdk_30_method_1_code, exceptionTable := #[], attributes := #[] }
def k2m0 : Method := { name := "<init>", desc := "()V", sig := { parameters := [], returnType := none }, accessFlags := 4, code := some k2c0 }
/-- java/lang/Record -/
def k2 : Class := { plain "java/lang/Record" (some 0) with
  accessFlags := 1057
  interfaces := #[]
  cf := some (fileOf pool2 7 #[] #[{ accessFlags := 4, nameIndex := 5, descriptorIndex := 6, attributes := #[] }] 1057 2 #[] #[])
  fields := #[]
  methods := #[k2m0]
  instanceTypes := #[]
  staticTypes := #[]
  resolved := Array.replicate 22 none
  statics := none }

def pool3 : Array CpInfo := pool [(1, .methodref 2 3), (0, .class_ 4), (0, .nameAndType 5 6), (0, u "java/lang/Record"), (0, u "<init>"), (0, u "()V"), (0, .fieldref 8 9), (0, .class_ 10), (0, .nameAndType 11 12), (0, u "com/example/langouste/langouste/quorum/Vote"), (0, u "leader"), (0, u "J"), (0, .fieldref 8 14), (0, .nameAndType 15 12), (0, u "epoch"), (0, .fieldref 8 17), (0, .nameAndType 18 12), (0, u "zxid"), (13, u "(JJJ)V"), (17, u "isBetterThan"), (0, u "(Lcom/example/langouste/langouste/quorum/Vote;)Z")] 27

def k3c0 : Code := { maxStack := 3, maxLocals := 7, code := prog_47_method_1_code, exceptionTable := #[], attributes := #[] }
def k3m0 : Method := { name := "<init>", desc := "(JJJ)V", sig := { parameters := [.long, .long, .long], returnType := none }, accessFlags := 0, code := some k3c0 }
def k3c1 : Code := { maxStack := 4, maxLocals := 3, code := prog_47_method_3_code, exceptionTable := #[], attributes := #[] }
def k3m1 : Method := { name := "isBetterThan", desc := "(Lcom/example/langouste/langouste/quorum/Vote;)Z", sig := { parameters := [(.object "com/example/langouste/langouste/quorum/Vote")], returnType := some .boolean }, accessFlags := 0, code := some k3c1 }
/-- com/example/langouste/langouste/quorum/Vote -/
def k3 : Class := { plain "com/example/langouste/langouste/quorum/Vote" (some 2) with
  accessFlags := 48
  interfaces := #[]
  cf := some (fileOf pool3 8 #[] #[{ accessFlags := 0, nameIndex := 5, descriptorIndex := 32, attributes := #[] }, { accessFlags := 0, nameIndex := 50, descriptorIndex := 51, attributes := #[] }] 48 2 #[] #[{ accessFlags := 18, nameIndex := 11, descriptorIndex := 12, attributes := #[] }, { accessFlags := 18, nameIndex := 15, descriptorIndex := 12, attributes := #[] }, { accessFlags := 18, nameIndex := 18, descriptorIndex := 12, attributes := #[] }])
  fields := #[{ name := "leader", type := .long, accessFlags := 18, slot := 0, constantValue := 0 }, { name := "epoch", type := .long, accessFlags := 18, slot := 1, constantValue := 0 }, { name := "zxid", type := .long, accessFlags := 18, slot := 2, constantValue := 0 }]
  methods := #[k3m0, k3m1]
  instanceTypes := #[.long, .long, .long]
  staticTypes := #[]
  resolved := Array.replicate 79 none
  statics := none }

def pool4 : Array CpInfo := pool [(1, u "java/lang/Cloneable"), (0, .class_ 1), (0, u "java/lang/Object"), (0, .class_ 3)] 3

/-- java/lang/Cloneable -/
def k4 : Class := { plain "java/lang/Cloneable" (some 0) with
  accessFlags := 1537
  interfaces := #[]
  cf := some (fileOf pool4 2 #[] #[] 1537 4 #[] #[])
  fields := #[]
  methods := #[]
  instanceTypes := #[]
  staticTypes := #[]
  resolved := Array.replicate 8 none
  statics := none }

def pool5 : Array CpInfo := pool [(1, u "java/io/Serializable"), (0, .class_ 1), (0, u "java/lang/Object"), (0, .class_ 3)] 3

/-- java/io/Serializable -/
def k5 : Class := { plain "java/io/Serializable" (some 0) with
  accessFlags := 1537
  interfaces := #[]
  cf := some (fileOf pool5 2 #[] #[] 1537 4 #[] #[])
  fields := #[]
  methods := #[]
  instanceTypes := #[]
  staticTypes := #[]
  resolved := Array.replicate 8 none
  statics := none }

/-- the primitive byte -/
def k6 : Class := { plain "byte" none with kind := .primitive 'B', accessFlags := 0x411 }
/-- [B -/
def k7 : Class := { plain "[B" (some 0) with kind := .array 6 .byte, interfaces := #[4, 5], accessFlags := 1041 }

/-- the primitive int -/
def k8 : Class := { plain "int" none with kind := .primitive 'I', accessFlags := 0x411 }
/-- [I -/
def k9 : Class := { plain "[I" (some 0) with kind := .array 8 .int, interfaces := #[4, 5], accessFlags := 1041 }

def heap : Heap := #[]
def classes : Array Class := #[k0, k1, k2, k3, k4, k5, k6, k7, k8, k9]
def interned : List (Array UInt16 × Addr) := []
def slotsUsed : Nat := 0
def theMethod : MethodId := ⟨1, 2⟩
def args0 : Array Value := #[.long 5, .long 1, .long 2, .long 4, .long 1, .long 3]
def aboutOver (below : List Frame) : State where
  vm := { classes := classes, interned := interned.toArray }
  heap := heap
  slotsUsed := slotsUsed
  threads := #[{ frames := .invoking theMethod args0 :: below }]
def below0 : List Frame := [.native { method := ⟨0, 0⟩, args := #[] }]
def about1 : State := aboutOver below0
def p0 : Program := .bare "" "" ""
def e0 : Env := launch0.env 0 0 0
theorem w_frames : about1.frames = Frame.invoking theMethod args0 :: below0 := rfl
set_option maxRecDepth 65536 in
theorem w_args : argsFit about1.vm theMethod args0 = true := by decide +kernel
set_option maxRecDepth 65536 in
theorem w_heap : heapFits about1 = true := by decide +kernel
set_option maxRecDepth 65536 in
theorem w_runnable : about1.curStatus? = some .runnable := by decide +kernel
set_option maxRecDepth 65536 in
theorem w_alone : about1.alone = true := by decide +kernel
set_option maxRecDepth 65536 in
theorem w_named : about1.methodNamed? x = some theMethod := by decide +kernel
set_option maxRecDepth 65536 in
theorem w_hears : about1.hears theMethod below0 = true := by decide +kernel
set_option maxRecDepth 65536 in
theorem w_ripe : about1.ripe theMethod args0 below0 = true := by decide +kernel
theorem w_running : about1.status = .running := rfl
set_option maxRecDepth 65536 in
theorem w_room : about1.hasRoom e0.platform room_1 = true :=
  launch0.hasRoom_least _ room_1 (by decide +kernel) (by decide +kernel) (by decide +kernel) (by decide +kernel) (by decide +kernel) (by decide +kernel)
theorem allAtoms_all (ts : List Jvm.Cond) (a : Array Jvm.Value) (st : Jvm.State) : (allAtoms ts).before a st = ts.all (fun c => c.before a st) := by
  induction ts with
  | nil => rfl
  | cons c t ih =>
    show (Jvm.Cond.and c (allAtoms t)).before a st = _
    rw [Jvm.Cond.before_and, ih, List.all_cons]
def words1 : List Jvm.Cond := Jvm.Cond.code x code maxLocals ret :: tables_1
/-- a 'code' word, met by the world's own term for the bytes: nothing is compared byte by byte -/
theorem code_word {y : MethodName} {bytes : ByteArray} {mx : Nat} {rt : Option FieldType} {a : Array Value} {s : State} {m : MethodId} {meth : Method} {c : Code} (h1 : s.methodNamed? y = some m) (h2 : s.vm.method? m = some meth) (h3 : meth.code = some c) (h4 : c.code = bytes)
    (h5 : (c.maxLocals == mx && c.exceptionTable.isEmpty && decide (c.maxStack ≤ mostOperands) && decide (meth.sig.returnType = rt) && !meth.locks && decide (parseMethodDescriptor y.desc = some meth.sig)) = true) : (Jvm.Cond.code y bytes mx rt).before a s = true := by
  simp only [Bool.and_eq_true, beq_iff_eq, Bool.not_eq_true', decide_eq_true_eq] at h5
  obtain ⟨⟨⟨⟨⟨g1, g2⟩, g3⟩, g4⟩, g5⟩, g6⟩ := h5
  simp [Cond.before, Cond.holds, Cond.value, h1, h2, h3, h4, g1, g2, g3, g4, g5, g6]
def isCode : Jvm.Cond → Bool
  | .code _ _ _ _ => true
  | _ => false
theorem all_split {L : List Jvm.Cond} {P : Jvm.Cond → Bool} (h1 : L.all (fun c => isCode c || P c) = true) (h2 : ∀ c ∈ L.filter isCode, P c = true) : L.all P = true := by
  refine List.all_eq_true.mpr fun c hc => ?_
  have h := List.all_eq_true.mp h1 c hc
  rcases Bool.eq_false_or_eq_true (isCode c) with hi | hi
  · exact h2 c (List.mem_filter.mpr ⟨hc, hi⟩)
  · simpa [hi] using h
set_option maxRecDepth 65536 in
theorem w_c0 : (Jvm.Cond.code x code maxLocals ret).before args0 about1 = true := code_word (m := ⟨1, 2⟩) (meth := k1m2) (c := k1c2) (by decide +kernel) rfl rfl rfl (by decide +kernel)
set_option maxRecDepth 65536 in
theorem w_c1 : (Jvm.Cond.code ({ cls := "com/example/langouste/langouste/quorum/Vote", name := "<init>", desc := "(JJJ)V" } : Jvm.MethodName) prog_47_method_1_code (7 : Nat) (Option.none : Option Jvm.ClassFile.FieldType)).before args0 about1 = true := code_word (m := ⟨3, 0⟩) (meth := k3m0) (c := k3c0) (by decide +kernel) rfl rfl rfl (by decide +kernel)
set_option maxRecDepth 65536 in
theorem w_c2 : (Jvm.Cond.code ({ cls := "java/lang/Record", name := "<init>", desc := "()V" } : Jvm.MethodName) jdk_30_method_1_code (1 : Nat) (Option.none : Option Jvm.ClassFile.FieldType)).before args0 about1 = true := code_word (m := ⟨2, 0⟩) (meth := k2m0) (c := k2c0) (by decide +kernel) rfl rfl rfl (by decide +kernel)
set_option maxRecDepth 65536 in
theorem w_c3 : (Jvm.Cond.code ({ cls := "java/lang/Object", name := "<init>", desc := "()V" } : Jvm.MethodName) object_method_1_code (1 : Nat) (Option.none : Option Jvm.ClassFile.FieldType)).before args0 about1 = true := code_word (m := ⟨0, 0⟩) (meth := k0m0) (c := k0c0) (by decide +kernel) rfl rfl rfl (by decide +kernel)
set_option maxRecDepth 65536 in
theorem w_c4 : (Jvm.Cond.code ({ cls := "com/example/langouste/langouste/quorum/Vote", name := "isBetterThan", desc := "(Lcom/example/langouste/langouste/quorum/Vote;)Z" } : Jvm.MethodName) prog_47_method_3_code (3 : Nat) (Option.some Jvm.ClassFile.FieldType.boolean)).before args0 about1 = true := code_word (m := ⟨3, 1⟩) (meth := k3m1) (c := k3c1) (by decide +kernel) rfl rfl rfl (by decide +kernel)
set_option maxRecDepth 65536 in
theorem w_c5 : (Jvm.Cond.code ({ cls := "com/example/langouste/langouste/quorum/VoteIsBetterThanPinLaw", name := "ref", desc := "(JJJJJJ)Z" } : Jvm.MethodName) method_2_code (12 : Nat) (Option.some Jvm.ClassFile.FieldType.boolean)).before args0 about1 = true := code_word (m := ⟨1, 1⟩) (meth := k1m1) (c := k1c1) (by decide +kernel) rfl rfl rfl (by decide +kernel)
def codes1 : List Jvm.Cond := [Jvm.Cond.code x code maxLocals ret, Jvm.Cond.code ({ cls := "com/example/langouste/langouste/quorum/Vote", name := "<init>", desc := "(JJJ)V" } : Jvm.MethodName) prog_47_method_1_code (7 : Nat) (Option.none : Option Jvm.ClassFile.FieldType), Jvm.Cond.code ({ cls := "java/lang/Record", name := "<init>", desc := "()V" } : Jvm.MethodName) jdk_30_method_1_code (1 : Nat) (Option.none : Option Jvm.ClassFile.FieldType), Jvm.Cond.code ({ cls := "java/lang/Object", name := "<init>", desc := "()V" } : Jvm.MethodName) object_method_1_code (1 : Nat) (Option.none : Option Jvm.ClassFile.FieldType), Jvm.Cond.code ({ cls := "com/example/langouste/langouste/quorum/Vote", name := "isBetterThan", desc := "(Lcom/example/langouste/langouste/quorum/Vote;)Z" } : Jvm.MethodName) prog_47_method_3_code (3 : Nat) (Option.some Jvm.ClassFile.FieldType.boolean), Jvm.Cond.code ({ cls := "com/example/langouste/langouste/quorum/VoteIsBetterThanPinLaw", name := "ref", desc := "(JJJJJJ)Z" } : Jvm.MethodName) method_2_code (12 : Nat) (Option.some Jvm.ClassFile.FieldType.boolean)]
set_option maxRecDepth 65536 in
theorem codes_eq : words1.filter isCode = codes1 := rfl
theorem w_codes : ∀ c ∈ words1.filter isCode, c.before args0 about1 = true := by
  rw [codes_eq]
  intro c hc
  simp only [codes1, List.mem_cons, List.not_mem_nil, or_false] at hc
  rcases hc with rfl | rfl | rfl | rfl | rfl | rfl
  · exact w_c0
  · exact w_c1
  · exact w_c2
  · exact w_c3
  · exact w_c4
  · exact w_c5
set_option maxRecDepth 65536 in
theorem w_t1 : (words1.take 24).all (fun c => isCode c || c.before args0 about1) = true := by decide +kernel
set_option maxRecDepth 65536 in
theorem w_t2 : (words1.drop 24).all (fun c => isCode c || c.before args0 about1) = true := by decide +kernel
theorem w_tables : (allAtoms (Jvm.Cond.code x code maxLocals ret :: tables_1)).before args0 about1 = true := by
  rw [allAtoms_all]
  show words1.all (fun c => c.before args0 about1) = true
  refine all_split ?_ w_codes
  rw [← List.take_append_drop 24 words1, List.all_append, w_t1, w_t2]
  rfl
set_option maxRecDepth 65536 in
theorem w_case : (Jvm.Cond.and given_1 narrow_1).before args0 about1 = true := by decide +kernel
theorem w_applies : (headSpec (Jvm.Cond.code x code maxLocals ret :: tables_1) room_1).applies x e0.platform about1 = true :=
  (Spec.applies_iff w_frames).mpr ⟨w_running, w_runnable, w_alone, w_named, w_hears, w_ripe, w_room, w_tables⟩
theorem atStart : AtStart classFile x code maxLocals ret World_1 tables_1 room_1 Calls_1 rest_1 Pre_1 launch0 p0 e0 about1 theMethod args0 below0 :=
  ⟨lists_1, trivial, launch0.admits_env _ _ _, launch0.least_env, fairChoices_fair.cas, fairChoices_fair.clock, w_frames, w_args, w_heap, w_applies, trivial, trivial, w_case⟩
end start1
theorem witness_1 : WitnessClaimed_1 := ⟨start1.p0, start1.e0, start1.about1, start1.theMethod, start1.args0, start1.below0, start1.atStart⟩
end Jvm.Pilot.@@N@@
