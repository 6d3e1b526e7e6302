import JvmDerived
import JvmDerived.Pilot.@@N@@Statement
import JvmDerived.Pilot.@@N@@Code
set_option linter.unusedVariables false
set_option linter.unusedSimpArgs false
namespace Jvm.Pilot.@@N@@
open Jvm Jvm.ClassFile Sem Op Lib Jvm.Free Jvm.Stand Jvm.LawKit Jvm.RoadKit Bundle Jvm.Pilot.@@N@@.Jvm.D
/-! ## THE LAYER OF THIS SEAT (GoKit): one predicate 'Go': from this pc, these locals and this stack, over the heap h, with k cells and n slots made, the body ends as Q says -/
abbrev Noise : Type := Program × Launch × Env × State × MethodId × Array Value × List Frame × Method × Code
def Cx (E : Noise) (Z : State) (own nm : String) (bytes : ByteArray) (mx : Nat) (rt : Option FieldType) : Prop :=
  E.1.tables.exec = Jvm.exec ∧ E.2.2.2.2.2.2.2.2.code = bytes ∧ E.2.2.2.2.2.2.2.2.maxLocals = mx ∧ Z.Warmed39 E.2.2.2.1.vm ∧ E.2.2.2.1.vm.findClass own = some E.2.2.2.2.1.cls ∧ E.2.2.2.2.2.2.2.1.sig.returnType = rt ∧ E.2.2.2.2.2.2.2.1.locks = false ∧ E.2.2.2.2.2.2.2.1.name = nm
abbrev Sd (E : Noise) (R : Room) (T : State) (locs : List Loc) (k n : Nat) : Prop := Stand E.1 E.2.1 E.2.2.1 R E.2.2.2.1 E.2.2.2.2.1 E.2.2.2.2.2.1 E.2.2.2.2.2.2.1 E.2.2.2.2.2.2.2.1 E.2.2.2.2.2.2.2.2 T locs k n
abbrev Sp (E : Noise) (a b : State) : Prop := Steps E.1.tables E.2.2.1 E.2.2.2.2.2.2.1 a b
def Go (E : Noise) (R : Room) (n0 : Nat) (Q : Option Value → Heap → Prop) (h : Heap) (k n : Nat) (pc : Nat) (Ls : Array Slot) (st : List Value) : Prop :=
  ∀ (T : State) (locs : List Loc), Sd E R T locs k n → T.heap = h → Fr n0 locs →
    ∃ s₂ o, Sp E (T.setTop (mkF E.2.2.2.2.1 pc Ls st)) s₂ ∧ s₂.status = .running ∧ Ended s₂ E.2.2.2.2.2.2.1 o ∧ ∃ v L, o = .returned v ∧ (Q v s₂.heap ∧ Fr n0 L) ∧ FrameEnd E.2.2.2.1 o s₂ L R.cells R.slots
def Met (Z : State) (y : MethodName) (bytes : ByteArray) (mx : Nat) (rt : Option FieldType) (R : Room) (as : Array Value) (h0 : Heap) (n0 : Nat) (Q : Option Value → Heap → Prop) : Prop :=
  ∀ (l : Launch) (ws : List Jvm.Cond), MetFree l y (head1 (Jvm.Cond.code y bytes mx rt :: ws) R) (fun a U => a = as ∧ Z.Warmed39 U.vm ∧ U.heap = h0) (fun _ _ _ _ _ => True)
    (fun _ U o U' => ∃ v L, o = .returned v ∧ (Q v U'.heap ∧ Fr n0 L) ∧ FrameEnd U o U' L R.cells R.slots)
section GoKit
variable {E : Noise} {Z : State} {own nm : String} {bytes : ByteArray} {mx : Nat} {rt : Option FieldType} {R : Room} {n0 : Nat} {Q : Option Value → Heap → Prop} {h : Heap} {k n : Nat} {pc pc' : Nat} {Ls Ls' : Array Slot} {st rest : List Value} {a0 : Array Value}
theorem own_w {i : Nat} {d : Jvm.Cond} (hw : ∀ d ∈ tables_1, d.before a0 Z = true) (q : tables_1[i]? = some d) : d.before a0 Z = true := hw _ (List.mem_of_getElem? q)
theorem nne {x y : Nat} (q : x ≠ y) : @Ne Jvm.Addr x y := q
theorem nnS {x y : Nat} {L : List Nat} (q : x ≠ y) (r : x ∉ L) : x ∉ y :: L := ninS q r
theorem exa_lt {a : Nat} {K : String} (F : Exa Z h a K) : a < h.size := F.lt
theorem keep_wr {h0 h' : Heap} {ws : List Nat} {a sl : Nat} {v : Value} (K : Keep h0 h ws) (W : Wr h h' a sl v) (q : h0.size ≤ a) : Keep h0 h' ws := K.wr W (Or.inr q)
theorem met_of {y : MethodName} {as : Array Value} {h0 : Heap} (hpn : plainFor y = true) (hent : ∀ m, entryFrame m as mx = mkF m 0 Ls [])
    (H : ∀ E : Noise, Cx E Z y.cls y.name bytes mx rt → Go E R n0 Q h0 0 0 0 Ls []) : Met Z y bytes mx rt R as h0 n0 Q := by
  intro l ws
  refine MetFree.of_bodySF hpn hisR ?_
  intro p e s m args below meth c s₁ Bd hml0 hP hK
  obtain ⟨rfl, hZ, hh⟩ := hP
  have hown : s.vm.findClass y.cls = some m.cls := findClass_of_methodNamed Bd.named
  have X0 : Stand p l e R s m args below meth c s₁ [] 0 0 := Stand.of_body Bd
  have e0 : s₁.heap = h0 := by rw [← hh, Bd.state]; rfl
  obtain ⟨s₂, o, q1, q2, q3, q4⟩ := H (p, l, e, s, m, args, below, meth, c) ⟨Bd.exec, Bd.bytes, hml0, hZ, hown, Bd.returns, Bd.notSynchronized, (name_of_methodNamed Bd.named Bd.method).1⟩ s₁ [] X0 e0 (Fr.nil n0)
  exact ⟨s₂, o, castTop (hent m) q1, q2, q3, q4⟩
theorem go_step (H : Go E R n0 Q h k n pc' Ls' rest) (f : ∀ T locs target, Sd E R T locs k n → T.heap = h → Sp E (T.setTop (mkF E.2.2.2.2.1 pc' Ls' rest)) target → Sp E (T.setTop (mkF E.2.2.2.2.1 pc Ls st)) target) : Go E R n0 Q h k n pc Ls st := fun T locs X hh N => by
  obtain ⟨s₂, o, q1, q⟩ := H T locs X hh N
  exact ⟨s₂, o, f T locs s₂ X hh q1, q⟩
theorem go_more {k' n' : Nat} (hk : k ≤ k') (hn : n ≤ n') (H : Go E R n0 Q h k' n' pc Ls st) : Go E R n0 Q h k n pc Ls st := fun T locs X hh N => H T locs (X.more hk hn) hh N
theorem go_aloadN (C : Cx E Z own nm bytes mx rt) {i : Fin 4} {v : Value} (hd : decode bytes pc = .ok (.aload_n i, 1)) (hl : Ls[i.val]? = some (.val v)) (hv : v.isRef = true) (hp : pc + 1 = pc') (H : Go E R n0 Q h k n pc' Ls (v :: st)) : Go E R n0 Q h k n pc Ls st := by
  subst hp; exact go_step H fun T locs t X _ q => XS.aloadN X.here C.1 rfl (hb C.2.1 hd) hl hv q
theorem go_aload (C : Cx E Z own nm bytes mx rt) {i : Nat} {v : Value} (hd : decode bytes pc = .ok (.aload i, 2)) (hl : Ls[i]? = some (.val v)) (hv : v.isRef = true) (hp : pc + 2 = pc') (H : Go E R n0 Q h k n pc' Ls (v :: st)) : Go E R n0 Q h k n pc Ls st := by
  subst hp; exact go_step H fun T locs t X _ q => XS.aload X.here C.1 rfl (hb C.2.1 hd) hl hv q
theorem go_iloadN (C : Cx E Z own nm bytes mx rt) {i : Fin 4} {v : Int32} (hd : decode bytes pc = .ok (.iload_n i, 1)) (hl : Ls[i.val]? = some (.val (.int v))) (hp : pc + 1 = pc') (H : Go E R n0 Q h k n pc' Ls (.int v :: st)) : Go E R n0 Q h k n pc Ls st := by
  subst hp; exact go_step H fun T locs t X _ q => XS.iloadN X.here C.1 rfl (hb C.2.1 hd) hl q
theorem go_iload (C : Cx E Z own nm bytes mx rt) {i : Nat} {v : Int32} (hd : decode bytes pc = .ok (.iload i, 2)) (hl : Ls[i]? = some (.val (.int v))) (hp : pc + 2 = pc') (H : Go E R n0 Q h k n pc' Ls (.int v :: st)) : Go E R n0 Q h k n pc Ls st := by
  subst hp; exact go_step H fun T locs t X _ q => XS.iload X.here C.1 rfl (hb C.2.1 hd) hl q
theorem go_lloadN (C : Cx E Z own nm bytes mx rt) {i : Fin 4} {v : Int64} (hd : decode bytes pc = .ok (.lload_n i, 1)) (hl : Ls[i.val]? = some (.val (.long v))) (hp : pc + 1 = pc') (H : Go E R n0 Q h k n pc' Ls (.long v :: st)) : Go E R n0 Q h k n pc Ls st := by
  subst hp; exact go_step H fun T locs t X _ q => XT.lloadN X.here C.1 rfl (hb C.2.1 hd) hl q
theorem go_lload (C : Cx E Z own nm bytes mx rt) {i : Nat} {v : Int64} (hd : decode bytes pc = .ok (.lload i, 2)) (hl : Ls[i]? = some (.val (.long v))) (hp : pc + 2 = pc') (H : Go E R n0 Q h k n pc' Ls (.long v :: st)) : Go E R n0 Q h k n pc Ls st := by
  subst hp; exact go_step H fun T locs t X _ q => XT.lload X.here C.1 rfl (hb C.2.1 hd) hl q
theorem go_iconst (C : Cx E Z own nm bytes mx rt) {i : Int} {z : Int32} (hd : decode bytes pc = .ok (.iconst i, 1)) (hz : Int32.ofInt i = z) (hp : pc + 1 = pc') (H : Go E R n0 Q h k n pc' Ls (.int z :: st)) : Go E R n0 Q h k n pc Ls st := by
  subst hp hz; exact go_step H fun T locs t X _ q => XS.iconst X.here C.1 rfl (hb C.2.1 hd) q
theorem go_lconst (C : Cx E Z own nm bytes mx rt) {i : Fin 2} {z : Int64} (hd : decode bytes pc = .ok (.lconst i, 1)) (hz : Int64.ofNat i = z) (hp : pc + 1 = pc') (H : Go E R n0 Q h k n pc' Ls (.long z :: st)) : Go E R n0 Q h k n pc Ls st := by
  subst hp hz; exact go_step H fun T locs t X _ q => XT.lconst X.here C.1 rfl (hb C.2.1 hd) q
theorem go_bipush (C : Cx E Z own nm bytes mx rt) {i : Int} {z : Int32} (hd : decode bytes pc = .ok (.bipush i, 2)) (hz : (Int8.ofInt i).toInt32 = z) (hp : pc + 2 = pc') (H : Go E R n0 Q h k n pc' Ls (.int z :: st)) : Go E R n0 Q h k n pc Ls st := by
  subst hp hz; exact go_step H fun T locs t X _ q => XS.bipush X.here C.1 rfl (hb C.2.1 hd) q
theorem go_sipush (C : Cx E Z own nm bytes mx rt) {i : Int} {z : Int32} (hd : decode bytes pc = .ok (.sipush i, 3)) (hz : (Int16.ofInt i).toInt32 = z) (hp : pc + 3 = pc') (H : Go E R n0 Q h k n pc' Ls (.int z :: st)) : Go E R n0 Q h k n pc Ls st := by
  subst hp hz; exact go_step H fun T locs t X _ q => XS.sipush X.here C.1 rfl (hb C.2.1 hd) q
theorem go_aconstNull (C : Cx E Z own nm bytes mx rt) (hd : decode bytes pc = .ok (.aconst_null, 1)) (hp : pc + 1 = pc') (H : Go E R n0 Q h k n pc' Ls (.null :: st)) : Go E R n0 Q h k n pc Ls st := by
  subst hp; exact go_step H fun T locs t X _ q => XS.aconstNull X.here C.1 rfl (hb C.2.1 hd) q
theorem go_ldc (C : Cx E Z own nm bytes mx rt) {i : Nat} {z : Int32} (hd : decode bytes pc = .ok (.ldc i, 2)) (w1 : (Cond.constant own i z).before a0 Z = true) (hp : pc + 2 = pc') (H : Go E R n0 Q h k n pc' Ls (.int z :: st)) : Go E R n0 Q h k n pc Ls st := by
  subst hp; exact go_step H fun T locs t X _ q => X.ldcInt C.1 C.2.2.2.2.1 (mvT C.2.2.2.1 w1) (g := mkF _ pc Ls st) rfl (hb C.2.1 hd) t q
theorem go_ldc2L (C : Cx E Z own nm bytes mx rt) {i : Nat} {z : Int64} (hd : decode bytes pc = .ok (.ldc2_w i, 3)) (w1 : (Cond.constantLong own i z).before a0 Z = true) (hp : pc + 3 = pc') (H : Go E R n0 Q h k n pc' Ls (.long z :: st)) : Go E R n0 Q h k n pc Ls st := by
  subst hp; exact go_step H fun T locs t X _ q => X.ldc2Long C.1 C.2.2.2.2.1 (mvT C.2.2.2.1 w1) (g := mkF _ pc Ls st) rfl (hb C.2.1 hd) t q
theorem go_istoreN (C : Cx E Z own nm bytes mx rt) {i : Fin 4} {x : Int32} (hd : decode bytes pc = .ok (.istore_n i, 1)) (hl : storeLocals Ls i.val (.int x) = some Ls') (hp : pc + 1 = pc') (H : Go E R n0 Q h k n pc' Ls' st) : Go E R n0 Q h k n pc Ls (.int x :: st) := by
  subst hp; exact go_step H fun T locs t X _ q => XS.istoreN X.here C.1 rfl (hb C.2.1 hd) rfl hl q
theorem go_istore (C : Cx E Z own nm bytes mx rt) {i : Nat} {x : Int32} (hd : decode bytes pc = .ok (.istore i, 2)) (hl : storeLocals Ls i (.int x) = some Ls') (hp : pc + 2 = pc') (H : Go E R n0 Q h k n pc' Ls' st) : Go E R n0 Q h k n pc Ls (.int x :: st) := by
  subst hp; exact go_step H fun T locs t X _ q => XS.istore X.here C.1 rfl (hb C.2.1 hd) rfl hl q
theorem go_astoreN (C : Cx E Z own nm bytes mx rt) {i : Fin 4} {x : Value} (hd : decode bytes pc = .ok (.astore_n i, 1)) (hv : x.isRef = true) (hl : storeLocals Ls i.val x = some Ls') (hp : pc + 1 = pc') (H : Go E R n0 Q h k n pc' Ls' st) : Go E R n0 Q h k n pc Ls (x :: st) := by
  subst hp; exact go_step H fun T locs t X _ q => XS.astoreN X.here C.1 rfl (hb C.2.1 hd) rfl hv hl q
theorem go_astore (C : Cx E Z own nm bytes mx rt) {i : Nat} {x : Value} (hd : decode bytes pc = .ok (.astore i, 2)) (hv : x.isRef = true) (hl : storeLocals Ls i x = some Ls') (hp : pc + 2 = pc') (H : Go E R n0 Q h k n pc' Ls' st) : Go E R n0 Q h k n pc Ls (x :: st) := by
  subst hp; exact go_step H fun T locs t X _ q => XS.astore X.here C.1 rfl (hb C.2.1 hd) rfl hv hl q
theorem go_lstoreN (C : Cx E Z own nm bytes mx rt) {i : Fin 4} {x : Int64} (hd : decode bytes pc = .ok (.lstore_n i, 1)) (hl : storeLocals Ls i.val (.long x) = some Ls') (hp : pc + 1 = pc') (H : Go E R n0 Q h k n pc' Ls' st) : Go E R n0 Q h k n pc Ls (.long x :: st) := by
  subst hp; exact go_step H fun T locs t X _ q => XT.lstoreN X.here C.1 rfl (hb C.2.1 hd) rfl hl q
theorem go_lstore (C : Cx E Z own nm bytes mx rt) {i : Nat} {x : Int64} (hd : decode bytes pc = .ok (.lstore i, 2)) (hl : storeLocals Ls i (.long x) = some Ls') (hp : pc + 2 = pc') (H : Go E R n0 Q h k n pc' Ls' st) : Go E R n0 Q h k n pc Ls (.long x :: st) := by
  subst hp; exact go_step H fun T locs t X _ q => XT.lstore X.here C.1 rfl (hb C.2.1 hd) rfl hl q
theorem go_iinc (C : Cx E Z own nm bytes mx rt) {i : Nat} {d : Int} {x z : Int32} (hd : decode bytes pc = .ok (.iinc i d, 3)) (hl : Ls[i]? = some (.val (.int x))) (hz : Int32.ofInt d = z) (hl' : storeLocals Ls i (.int (x + z)) = some Ls') (hp : pc + 3 = pc') (H : Go E R n0 Q h k n pc' Ls' st) : Go E R n0 Q h k n pc Ls st := by
  subst hp hz; exact go_step H fun T locs t X _ q => XS.iinc X.here C.1 rfl (hb C.2.1 hd) hl hl' q
theorem go_dup (C : Cx E Z own nm bytes mx rt) {x : Value} (hd : decode bytes pc = .ok (.dup, 1)) (hc : x.category = 1) (hp : pc + 1 = pc') (H : Go E R n0 Q h k n pc' Ls (x :: x :: st)) : Go E R n0 Q h k n pc Ls (x :: st) := by
  subst hp; exact go_step H fun T locs t X _ q => XS.dup X.here C.1 rfl (hb C.2.1 hd) rfl hc q
theorem go_dupX1 (C : Cx E Z own nm bytes mx rt) {x y : Value} (hd : decode bytes pc = .ok (.dup_x1, 1)) (hc : x.category = 1) (hc' : y.category = 1) (hp : pc + 1 = pc') (H : Go E R n0 Q h k n pc' Ls (x :: y :: x :: st)) : Go E R n0 Q h k n pc Ls (x :: y :: st) := by
  subst hp; exact go_step H fun T locs t X _ q => XT.dupX1 X.here C.1 rfl (hb C.2.1 hd) rfl hc hc' q
theorem go_dup2 (C : Cx E Z own nm bytes mx rt) {x y : Value} (hd : decode bytes pc = .ok (.dup2, 1)) (hc : x.category = 1) (hc' : y.category = 1) (hp : pc + 1 = pc') (H : Go E R n0 Q h k n pc' Ls (x :: y :: x :: y :: st)) : Go E R n0 Q h k n pc Ls (x :: y :: st) := by
  subst hp; exact go_step H fun T locs t X _ q => XT.dup2 X.here C.1 rfl (hb C.2.1 hd) rfl hc hc' q
theorem go_pop (C : Cx E Z own nm bytes mx rt) {x : Value} (hd : decode bytes pc = .ok (.pop, 1)) (hc : x.category = 1) (hp : pc + 1 = pc') (H : Go E R n0 Q h k n pc' Ls st) : Go E R n0 Q h k n pc Ls (x :: st) := by
  subst hp; exact go_step H fun T locs t X _ q => XT.pop X.here C.1 rfl (hb C.2.1 hd) rfl hc q
theorem go_iadd (C : Cx E Z own nm bytes mx rt) {x y : Int32} (hd : decode bytes pc = .ok (.iadd, 1)) (hp : pc + 1 = pc') (H : Go E R n0 Q h k n pc' Ls (.int (x + y) :: st)) : Go E R n0 Q h k n pc Ls (.int y :: .int x :: st) := by
  subst hp; exact go_step H fun T locs t X _ q => XS.iadd X.here C.1 rfl (hb C.2.1 hd) rfl q
theorem go_isub (C : Cx E Z own nm bytes mx rt) {x y : Int32} (hd : decode bytes pc = .ok (.isub, 1)) (hp : pc + 1 = pc') (H : Go E R n0 Q h k n pc' Ls (.int (x - y) :: st)) : Go E R n0 Q h k n pc Ls (.int y :: .int x :: st) := by
  subst hp; exact go_step H fun T locs t X _ q => XS.isub X.here C.1 rfl (hb C.2.1 hd) rfl q
theorem go_imul (C : Cx E Z own nm bytes mx rt) {x y : Int32} (hd : decode bytes pc = .ok (.imul, 1)) (hp : pc + 1 = pc') (H : Go E R n0 Q h k n pc' Ls (.int (x * y) :: st)) : Go E R n0 Q h k n pc Ls (.int y :: .int x :: st) := by
  subst hp; exact go_step H fun T locs t X _ q => XS.imul X.here C.1 rfl (hb C.2.1 hd) rfl q
theorem go_irem (C : Cx E Z own nm bytes mx rt) {x y : Int32} (hd : decode bytes pc = .ok (.irem, 1)) (hy : y ≠ 0) (hp : pc + 1 = pc') (H : Go E R n0 Q h k n pc' Ls (.int (x % y) :: st)) : Go E R n0 Q h k n pc Ls (.int y :: .int x :: st) := by
  subst hp; exact go_step H fun T locs t X _ q => iremM X C.1 rfl (hb C.2.1 hd) rfl hy q
theorem go_iand (C : Cx E Z own nm bytes mx rt) {x y : Int32} (hd : decode bytes pc = .ok (.iand, 1)) (hp : pc + 1 = pc') (H : Go E R n0 Q h k n pc' Ls (.int (x &&& y) :: st)) : Go E R n0 Q h k n pc Ls (.int y :: .int x :: st) := by
  subst hp; exact go_step H fun T locs t X _ q => XS.iand X.here C.1 rfl (hb C.2.1 hd) rfl q
theorem go_ior (C : Cx E Z own nm bytes mx rt) {x y : Int32} (hd : decode bytes pc = .ok (.ior, 1)) (hp : pc + 1 = pc') (H : Go E R n0 Q h k n pc' Ls (.int (x ||| y) :: st)) : Go E R n0 Q h k n pc Ls (.int y :: .int x :: st) := by
  subst hp; exact go_step H fun T locs t X _ q => XT.ior X.here C.1 rfl (hb C.2.1 hd) rfl q
theorem go_ishl (C : Cx E Z own nm bytes mx rt) {x y : Int32} (hd : decode bytes pc = .ok (.ishl, 1)) (hp : pc + 1 = pc') (H : Go E R n0 Q h k n pc' Ls (.int (x <<< (y &&& 31)) :: st)) : Go E R n0 Q h k n pc Ls (.int y :: .int x :: st) := by
  subst hp; exact go_step H fun T locs t X _ q => XT.ishl X.here C.1 rfl (hb C.2.1 hd) rfl q
theorem go_ishr (C : Cx E Z own nm bytes mx rt) {x y : Int32} (hd : decode bytes pc = .ok (.ishr, 1)) (hp : pc + 1 = pc') (H : Go E R n0 Q h k n pc' Ls (.int (x >>> (y &&& 31)) :: st)) : Go E R n0 Q h k n pc Ls (.int y :: .int x :: st) := by
  subst hp; exact go_step H fun T locs t X _ q => XT.ishr X.here C.1 rfl (hb C.2.1 hd) rfl q
theorem go_iushr (C : Cx E Z own nm bytes mx rt) {x y : Int32} (hd : decode bytes pc = .ok (.iushr, 1)) (hp : pc + 1 = pc') (H : Go E R n0 Q h k n pc' Ls (.int (XT.ushr x y) :: st)) : Go E R n0 Q h k n pc Ls (.int y :: .int x :: st) := by
  subst hp; exact go_step H fun T locs t X _ q => XT.iushr X.here C.1 rfl (hb C.2.1 hd) rfl q
theorem go_lmul (C : Cx E Z own nm bytes mx rt) {x y : Int64} (hd : decode bytes pc = .ok (.lmul, 1)) (hp : pc + 1 = pc') (H : Go E R n0 Q h k n pc' Ls (.long (x * y) :: st)) : Go E R n0 Q h k n pc Ls (.long y :: .long x :: st) := by
  subst hp; exact go_step H fun T locs t X _ q => XT.lmul X.here C.1 rfl (hb C.2.1 hd) rfl q
theorem go_land (C : Cx E Z own nm bytes mx rt) {x y : Int64} (hd : decode bytes pc = .ok (.land, 1)) (hp : pc + 1 = pc') (H : Go E R n0 Q h k n pc' Ls (.long (x &&& y) :: st)) : Go E R n0 Q h k n pc Ls (.long y :: .long x :: st) := by
  subst hp; exact go_step H fun T locs t X _ q => XT.land X.here C.1 rfl (hb C.2.1 hd) rfl q
theorem go_lushr (C : Cx E Z own nm bytes mx rt) {x : Int64} {y : Int32} (hd : decode bytes pc = .ok (.lushr, 1)) (hp : pc + 1 = pc') (H : Go E R n0 Q h k n pc' Ls (.long (XT.ushrL x y) :: st)) : Go E R n0 Q h k n pc Ls (.int y :: .long x :: st) := by
  subst hp; exact go_step H fun T locs t X _ q => XT.lushr X.here C.1 rfl (hb C.2.1 hd) rfl q
theorem go_ldiv (C : Cx E Z own nm bytes mx rt) {x y : Int64} (hd : decode bytes pc = .ok (.ldiv, 1)) (hy : y ≠ 0) (hp : pc + 1 = pc') (H : Go E R n0 Q h k n pc' Ls (.long (x / y) :: st)) : Go E R n0 Q h k n pc Ls (.long y :: .long x :: st) := by
  subst hp; exact go_step H fun T locs t X _ q => XT.ldiv X.here C.1 rfl (hb C.2.1 hd) rfl hy q
theorem go_lrem (C : Cx E Z own nm bytes mx rt) {x y : Int64} (hd : decode bytes pc = .ok (.lrem, 1)) (hy : y ≠ 0) (hp : pc + 1 = pc') (H : Go E R n0 Q h k n pc' Ls (.long (x % y) :: st)) : Go E R n0 Q h k n pc Ls (.long y :: .long x :: st) := by
  subst hp; rw [← lrem_mod] at H; exact go_step H fun T locs t X _ q => XT.lrem X.here C.1 rfl (hb C.2.1 hd) rfl hy q
theorem go_i2l (C : Cx E Z own nm bytes mx rt) {x : Int32} (hd : decode bytes pc = .ok (.i2l, 1)) (hp : pc + 1 = pc') (H : Go E R n0 Q h k n pc' Ls (.long x.toInt64 :: st)) : Go E R n0 Q h k n pc Ls (.int x :: st) := by
  subst hp; exact go_step H fun T locs t X _ q => XT.i2l X.here C.1 rfl (hb C.2.1 hd) rfl q
theorem go_lcmp (C : Cx E Z own nm bytes mx rt) {x y : Int64} (hd : decode bytes pc = .ok (.lcmp, 1)) (hp : pc + 1 = pc') (H : Go E R n0 Q h k n pc' Ls (.int (XT.cmpL x y) :: st)) : Go E R n0 Q h k n pc Ls (.long y :: .long x :: st) := by
  subst hp; exact go_step H fun T locs t X _ q => XT.lcmp X.here C.1 rfl (hb C.2.1 hd) rfl q
theorem go_goto (C : Cx E Z own nm bytes mx rt) {o : Int} (hd : decode bytes pc = .ok (.goto o, 3)) (ho : 0 ≤ (pc : Int) + o) (hp : ((pc : Int) + o).toNat = pc') (H : Go E R n0 Q h k n pc' Ls st) : Go E R n0 Q h k n pc Ls st :=
  go_step H fun T locs t X _ q => XS.goto X.here C.1 rfl rfl (hb C.2.1 hd) ho hp q
theorem go_ifY (C : Cx E Z own nm bytes mx rt) {cd : ClassFile.Cond} {x : Int32} {o : Int} (hd : decode bytes pc = .ok (.ifCond cd o, 3)) (hc : ifCond.holds cd x = true) (ho : 0 ≤ (pc : Int) + o) (hp : ((pc : Int) + o).toNat = pc') (H : Go E R n0 Q h k n pc' Ls st) : Go E R n0 Q h k n pc Ls (.int x :: st) :=
  go_step H fun T locs t X _ q => XS.ifYes X.here C.1 rfl rfl (hb C.2.1 hd) rfl hc ho hp q
theorem go_ifN (C : Cx E Z own nm bytes mx rt) {cd : ClassFile.Cond} {x : Int32} {o : Int} (hd : decode bytes pc = .ok (.ifCond cd o, 3)) (hc : ifCond.holds cd x = false) (hp : pc + 3 = pc') (H : Go E R n0 Q h k n pc' Ls st) : Go E R n0 Q h k n pc Ls (.int x :: st) := by
  subst hp; exact go_step H fun T locs t X _ q => XS.ifNo X.here C.1 rfl (hb C.2.1 hd) rfl hc q
theorem go_icY (C : Cx E Z own nm bytes mx rt) {cd : ClassFile.Cond} {x y : Int32} {o : Int} (hd : decode bytes pc = .ok (.if_icmp cd o, 3)) (hc : if_icmp.holds cd x y = true) (ho : 0 ≤ (pc : Int) + o) (hp : ((pc : Int) + o).toNat = pc') (H : Go E R n0 Q h k n pc' Ls st) : Go E R n0 Q h k n pc Ls (.int y :: .int x :: st) :=
  go_step H fun T locs t X _ q => XS.icmpYes X.here C.1 rfl rfl (hb C.2.1 hd) rfl hc ho hp q
theorem go_icN (C : Cx E Z own nm bytes mx rt) {cd : ClassFile.Cond} {x y : Int32} {o : Int} (hd : decode bytes pc = .ok (.if_icmp cd o, 3)) (hc : if_icmp.holds cd x y = false) (hp : pc + 3 = pc') (H : Go E R n0 Q h k n pc' Ls st) : Go E R n0 Q h k n pc Ls (.int y :: .int x :: st) := by
  subst hp; exact go_step H fun T locs t X _ q => XS.icmpNo X.here C.1 rfl (hb C.2.1 hd) rfl hc q
/-- what a comparison asks, as a proposition -/
def rel : ClassFile.Cond → Int32 → Int32 → Prop
  | .eq, x, y => x.toInt = y.toInt
  | .ne, x, y => ¬ x.toInt = y.toInt
  | .lt, x, y => x.toInt < y.toInt
  | .ge, x, y => y.toInt ≤ x.toInt
  | .gt, x, y => y.toInt < x.toInt
  | .le, x, y => x.toInt ≤ y.toInt
theorem rel_holds (cd : ClassFile.Cond) (x y : Int32) : if_icmp.holds cd x y = true ↔ rel cd x y := by
  cases cd <;> simp [if_icmp.holds, rel, Int32.lt_iff_toInt_lt, Int32.le_iff_toInt_le, Int32.toInt_inj]
theorem rel_holds0 (cd : ClassFile.Cond) (x : Int32) : ifCond.holds cd x = true ↔ rel cd x 0 := by rw [if0]; exact rel_holds cd x 0
/-- both ways of a comparison -/
theorem go_ic (C : Cx E Z own nm bytes mx rt) {cd : ClassFile.Cond} {x y : Int32} {o : Int} {pcY pcN : Nat} (hd : decode bytes pc = .ok (.if_icmp cd o, 3)) (ho : 0 ≤ (pc : Int) + o) (hpY : ((pc : Int) + o).toNat = pcY) (hpN : pc + 3 = pcN)
    (HY : rel cd x y → Go E R n0 Q h k n pcY Ls st) (HN : ¬ rel cd x y → Go E R n0 Q h k n pcN Ls st) : Go E R n0 Q h k n pc Ls (.int y :: .int x :: st) := by
  cases q : if_icmp.holds cd x y with
  | true => exact go_icY C hd q ho hpY (HY ((rel_holds cd x y).mp q))
  | false => exact go_icN C hd q hpN (HN fun r => by rw [(rel_holds cd x y).mpr r] at q; cases q)
theorem go_if (C : Cx E Z own nm bytes mx rt) {cd : ClassFile.Cond} {x : Int32} {o : Int} {pcY pcN : Nat} (hd : decode bytes pc = .ok (.ifCond cd o, 3)) (ho : 0 ≤ (pc : Int) + o) (hpY : ((pc : Int) + o).toNat = pcY) (hpN : pc + 3 = pcN)
    (HY : rel cd x 0 → Go E R n0 Q h k n pcY Ls st) (HN : ¬ rel cd x 0 → Go E R n0 Q h k n pcN Ls st) : Go E R n0 Q h k n pc Ls (.int x :: st) := by
  cases q : ifCond.holds cd x with
  | true => exact go_ifY C hd q ho hpY (HY ((rel_holds0 cd x).mp q))
  | false => exact go_ifN C hd q hpN (HN fun r => by rw [(rel_holds0 cd x).mpr r] at q; cases q)
/-! the ends -/
theorem go_end {v : Option Value} (hr : ∀ T locs, Sd E R T locs k n → ∀ fs, (∀ (f : JFrame) (acts : List Action), f.method = E.2.2.2.2.1 → f.locked = none → f.entered = [] → (doReturn E.2.2.1 (T.setTop f) acts v).1 = T.setFrames fs) → Sp E (T.setTop (mkF E.2.2.2.2.1 pc Ls st)) (T.setFrames fs))
    (hlk : E.2.2.2.2.2.2.2.1.locks = false) (hv : E.2.2.2.2.2.2.2.1.sig.returnType = none → v = none) (hk : k ≤ R.cells) (hn : n ≤ R.slots) (hQ : Q v h) : Go E R n0 Q h k n pc Ls st := fun T locs X hh N => by
  obtain ⟨fs, q1, q2, q3, q4, q5⟩ := X.leave (v := v) hv hlk
  exact ⟨_, _, hr T locs X fs q1, q2, q3, _, _, rfl, ⟨by show Q v T.heap; rw [hh]; exact hQ, N⟩, ⟨_, rfl⟩, q4, q5.mono hk hn⟩
theorem go_retI (C : Cx E Z own nm bytes mx (some .int)) {z : Int32} (hd : decode bytes pc = .ok (.ireturn, 1)) (hk : k ≤ R.cells) (hn : n ≤ R.slots) (hQ : Q (some (.int z)) h) : Go E R n0 Q h k n pc Ls (.int z :: st) :=
  go_end (fun T locs X fs hl => retOut X C.1 (w := .int z) (t := .int) C.2.2.2.2.2.1 rfl (Or.inl ⟨rfl, Or.inl rfl, _, rfl⟩) (hb C.2.1 hd) hl) C.2.2.2.2.2.2.1 (fun q => by rw [C.2.2.2.2.2.1] at q; cases q) hk hn hQ
theorem go_retZ (C : Cx E Z own nm bytes mx (some .boolean)) {z : Int32} (hd : decode bytes pc = .ok (.ireturn, 1)) (hz : z = 0 ∨ z = 1) (hk : k ≤ R.cells) (hn : n ≤ R.slots) (hQ : Q (some (.int z)) h) : Go E R n0 Q h k n pc Ls (.int z :: st) :=
  go_end (fun T locs X fs hl => retOut X C.1 (w := .int z) (t := .boolean) C.2.2.2.2.2.1 (by rcases hz with rfl | rfl <;> rfl) (Or.inl ⟨rfl, Or.inr (Or.inl rfl), _, rfl⟩) (hb C.2.1 hd) hl) C.2.2.2.2.2.2.1 (fun q => by rw [C.2.2.2.2.2.1] at q; cases q) hk hn hQ
theorem go_retL (C : Cx E Z own nm bytes mx (some .long)) {z : Int64} (hd : decode bytes pc = .ok (.lreturn, 1)) (hk : k ≤ R.cells) (hn : n ≤ R.slots) (hQ : Q (some (.long z)) h) : Go E R n0 Q h k n pc Ls (.long z :: st) :=
  go_end (fun T locs X fs hl => retOut X C.1 (w := .long z) (t := .long) C.2.2.2.2.2.1 rfl (Or.inr (Or.inl ⟨rfl, rfl, _, rfl⟩)) (hb C.2.1 hd) hl) C.2.2.2.2.2.2.1 (fun q => by rw [C.2.2.2.2.2.1] at q; cases q) hk hn hQ
theorem go_retA {t : FieldType} (C : Cx E Z own nm bytes mx (some t)) {w : Value} (hd : decode bytes pc = .ok (.areturn, 1)) (ht : t.isReference = true) (hw : w.isRef = true) (hnw : narrow t w = w) (hk : k ≤ R.cells) (hn : n ≤ R.slots) (hQ : Q (some w) h) : Go E R n0 Q h k n pc Ls (w :: st) :=
  go_end (fun T locs X fs hl => retOut X C.1 (w := w) (t := t) C.2.2.2.2.2.1 hnw (Or.inr (Or.inr (Or.inr (Or.inr ⟨rfl, ht, hw⟩)))) (hb C.2.1 hd) hl) C.2.2.2.2.2.2.1 (fun q => by rw [C.2.2.2.2.2.1] at q; cases q) hk hn hQ
theorem go_retV (C : Cx E Z own nm bytes mx none) (hd : decode bytes pc = .ok (.return_, 1)) (hk : k ≤ R.cells) (hn : n ≤ R.slots) (hQ : Q none h) : Go E R n0 Q h k n pc Ls [] :=
  go_end (fun T locs X fs hl => X.returnOut C.1 C.2.2.2.2.2.1 (hb C.2.1 hd) hl) C.2.2.2.2.2.2.1 (fun _ => rfl) hk hn hQ
/-! calls -/
theorem go_callS (C : Cx E Z own nm bytes mx rt) {i : Nat} {y : MethodName} {by' : ByteArray} {mx' : Nat} {rt' : Option FieldType} {rm : Room} {Qc : Option Value → Heap → Prop} {argsL : List Value}
    (w1 : (Cond.methodLink own i y).before a0 Z = true) (w2 : (Cond.static y).before a0 Z = true) (w3 : (Cond.initialized y.cls).before a0 Z = true) (w4 : (Cond.code y by' mx' rt').before a0 Z = true)
    (hM : Met Z y by' mx' rt' rm argsL.toArray h n0 Qc) (hd : decode bytes pc = .ok (.invokestatic i, 3)) (hsz : Ls.size = mx) (hst : st = argsL.reverse ++ rest)
    (hlen : ∀ sig, parseMethodDescriptor y.desc = some sig → argsL.length = sig.parameters.length) (hy : y.cls ≠ "java/lang/invoke/MethodHandle" ∧ y.cls ≠ "java/lang/invoke/VarHandle")
    (hfr : rm.frames + 1 ≤ R.frames) (W : Nat) (hW : (rest.map fun v => v.category).sum = W) (hlo : W + (mx' + 11) + rm.locals ≤ R.locals) {k' n' : Nat} (hk' : k + rm.cells = k') (hn' : n + rm.slots = n') (hc : k' ≤ R.cells) (hs : n' ≤ R.slots) (hp : pc + 3 = pc')
    (H : ∀ v h', Qc v h' → Go E R n0 Q h' k' n' pc' Ls (v.toList ++ rest)) : Go E R n0 Q h k n pc Ls st := fun T locs X hh N => by
  subst hp hW hk' hn'
  obtain ⟨v, vm, ⟨T', L', k', n'⟩, -, X', ⟨Lc, hQc, l1, y1, z1⟩, stp⟩ := Jvm.LawKit.callS X C.1 (y := y) C.2.2.2.2.1 (mvT C.2.2.2.1 w1) (mvT C.2.2.2.1 w2) (mvT C.2.2.2.1 w3) (mvT C.2.2.2.1 w4) hy
    (backOf (Q := fun v h L => Qc v h ∧ Fr n0 L) (W := (rest.map fun v => v.category).sum) (hM E.2.1 []) C.2.2.2.1 w4 w3 hfr hlo) (g := mkF E.2.2.2.2.1 pc Ls st) rfl (hsz.trans C.2.2.1.symm) (argsL := argsL) (rest := rest) hlen hst (by show 2 * 0 + _ ≤ _; omega) (hb C.2.1 hd) (fun _ _ => ⟨rfl, hh, hc, hs⟩)
  dsimp only [Pt.U, Pt.locs, Pt.cells, Pt.slots] at X' l1 y1 z1 stp hQc
  subst l1 y1 z1
  obtain ⟨s₂, o, q1, q⟩ := H v _ hQc.1 T' _ X' rfl (Fr.app N hQc.2)
  exact ⟨s₂, o, stp _ q1, q⟩
theorem go_callC (C : Cx E Z own nm bytes mx rt) {i : Nat} {y : MethodName} {by' : ByteArray} {mx' : Nat} {rm : Room} {Qc : Option Value → Heap → Prop} {argsL : List Value} {a : Nat}
    (w1 : (Cond.methodLink own i y).before a0 Z = true) (w2 : (Cond.instanceMethod y).before a0 Z = true) (w3 : (Cond.initialized y.cls).before a0 Z = true) (w4 : (Cond.code y by' mx' none).before a0 Z = true) (hni : y.name = "<init>")
    (hM : Met Z y by' mx' none rm (.ref a :: argsL).toArray h n0 Qc) (hd : decode bytes pc = .ok (.invokespecial i, 3)) (hsz : Ls.size = mx) (hst : st = argsL.reverse ++ .ref a :: rest)
    (hlen : ∀ sig, parseMethodDescriptor y.desc = some sig → argsL.length = sig.parameters.length) (hy : y.cls ≠ "java/lang/invoke/MethodHandle" ∧ y.cls ≠ "java/lang/invoke/VarHandle")
    (hfr : rm.frames + 1 ≤ R.frames) (W : Nat) (hW : (rest.map fun v => v.category).sum = W) (hlo : W + (mx' + 11) + rm.locals ≤ R.locals) {k' n' : Nat} (hk' : k + rm.cells = k') (hn' : n + rm.slots = n') (hc : k' ≤ R.cells) (hs : n' ≤ R.slots) (hp : pc + 3 = pc')
    (H : ∀ v h', Qc v h' → Go E R n0 Q h' k' n' pc' Ls (v.toList ++ rest)) : Go E R n0 Q h k n pc Ls st := fun T locs X hh N => by
  subst hp hW hk' hn'
  obtain ⟨v, vm, ⟨T', L', k', n'⟩, -, X', ⟨Lc, hQc, l1, y1, z1⟩, stp⟩ := X.specialBack C.1 (y := y) hni C.2.2.2.2.1 (mvT C.2.2.2.1 w1) (mvT C.2.2.2.1 w2) (mvT C.2.2.2.1 w4) hy
    (backOf (Q := fun v h L => Qc v h ∧ Fr n0 L) (W := (rest.map fun v => v.category).sum) (hM E.2.1 []) C.2.2.2.1 w4 w3 hfr hlo) (g := mkF E.2.2.2.2.1 pc Ls st) rfl (hsz.trans C.2.2.1.symm) (Steps.refl _) (a := a) (argsL := argsL) (rest := rest) hlen hst (by show 2 * 0 + _ ≤ _; omega) (hb C.2.1 hd) (fun _ _ => ⟨rfl, hh, hc, hs⟩)
  dsimp only [Pt.U, Pt.locs, Pt.cells, Pt.slots] at X' l1 y1 z1 stp hQc
  subst l1 y1 z1
  obtain ⟨s₂, o, q1, q⟩ := H v _ hQc.1 T' _ X' rfl (Fr.app N hQc.2)
  exact ⟨s₂, o, stp.trans q1, q⟩
theorem go_callV (C : Cx E Z own nm bytes mx rt) {i : Nat} {y : MethodName} {by' : ByteArray} {mx' : Nat} {rt' : Option FieldType} {rm : Room} {Qc : Option Value → Heap → Prop} {argsL : List Value} {a : Nat} {K : String}
    (w1 : (Cond.methodLink own i y).before a0 Z = true) (w2 : (Cond.declares y).before a0 Z = true) (w3 : (Cond.selects K y y).before a0 Z = true) (w4 : (Cond.instanceMethod y).before a0 Z = true) (w5 : (Cond.initialized y.cls).before a0 Z = true) (w6 : (Cond.code y by' mx' rt').before a0 Z = true)
    (hE : Exa Z h a K) (hM : Met Z y by' mx' rt' rm (.ref a :: argsL).toArray h n0 Qc) (hd : decode bytes pc = .ok (.invokevirtual i, 3)) (hsz : Ls.size = mx) (hst : st = argsL.reverse ++ .ref a :: rest)
    (hlen : ∀ sig, parseMethodDescriptor y.desc = some sig → argsL.length = sig.parameters.length) (hy : y.cls ≠ "java/lang/invoke/MethodHandle" ∧ y.cls ≠ "java/lang/invoke/VarHandle")
    (hfr : rm.frames + 1 ≤ R.frames) (W : Nat) (hW : (rest.map fun v => v.category).sum = W) (hlo : W + (mx' + 11) + rm.locals ≤ R.locals) {k' n' : Nat} (hk' : k + rm.cells = k') (hn' : n + rm.slots = n') (hc : k' ≤ R.cells) (hs : n' ≤ R.slots) (hp : pc + 3 = pc')
    (H : ∀ v h', Qc v h' → Go E R n0 Q h' k' n' pc' Ls (v.toList ++ rest)) : Go E R n0 Q h k n pc Ls st := fun T locs X hh N => by
  subst hp hW hk' hn'
  obtain ⟨cq, kq, qa, qb, qc⟩ := isOf C.2.2.2.1 hh hE
  obtain ⟨v, vm, ⟨T', L', k', n'⟩, -, X', ⟨Lc, hQc, l1, y1, z1⟩, stp⟩ := X.virtualBack C.1 (y := y) (z := y) C.2.2.2.2.1 (mvT C.2.2.2.1 w1) (mvT C.2.2.2.1 w2) (notFace_of_selects (args := #[]) (mvT C.2.2.2.1 w3)) (mvT C.2.2.2.1 w3) (mvT C.2.2.2.1 w4) hy
    (backOf (Q := fun v h L => Qc v h ∧ Fr n0 L) (W := (rest.map fun v => v.category).sum) (hM E.2.1 []) C.2.2.2.1 w6 w5 hfr hlo) qa qc (g := mkF E.2.2.2.2.1 pc Ls st) rfl (hsz.trans C.2.2.1.symm) (Steps.refl _) (argsL := argsL) (rest := rest) hlen hst (by show 2 * 0 + _ ≤ _; omega) (hb C.2.1 hd) (fun _ _ => ⟨rfl, hh, hc, hs⟩)
  dsimp only [Pt.U, Pt.locs, Pt.cells, Pt.slots] at X' l1 y1 z1 stp hQc
  subst l1 y1 z1
  obtain ⟨s₂, o, q1, q⟩ := H v _ hQc.1 T' _ X' rfl (Fr.app N hQc.2)
  exact ⟨s₂, o, stp.trans q1, q⟩
/-! objects and fields -/
theorem go_newO (C : Cx E Z own nm bytes mx rt) {i cnt : Nat} {K : String} (w1 : (Cond.classLink own i K).before a0 Z = true) (w2 : (Cond.instantiable K cnt).before a0 Z = true) (w3 : (Cond.initialized K).before a0 Z = true) (hd : decode bytes pc = .ok (.new i, 3)) {k' n' : Nat} (hk' : k + 1 = k') (hn' : n + cnt = n') (hc : k' ≤ R.cells) (hs : n' ≤ R.slots) (hp : pc + 3 = pc')
    (H : ∀ h', Ext h h' → Exa Z h' h.size K → (∀ {O f d : String} {ty : FieldType}, Laid Z a0 K O f d → parseFieldDescriptor d = some ty → Fld Z h' h.size O f d (defaultValue ty)) → Go E R n0 Q h' k' n' pc' Ls (.ref h.size :: st)) : Go E R n0 Q h k n pc Ls st := fun T locs X hh N => by
  subst hp hk' hn'
  obtain ⟨T', h', X', e', e2, A2, D2, -, stp⟩ := newO X C.1 C.2.2.2.1 C.2.2.2.2.1 w1 w2 w3 hh (g := mkF E.2.2.2.2.1 pc Ls st) rfl (hb C.2.1 hd) hc hs
  obtain ⟨s₂, o, q1, q⟩ := H h' e2 A2 D2 T' _ X' e' N
  exact ⟨s₂, o, stp _ q1, q⟩
theorem go_getF (C : Cx E Z own nm bytes mx rt) {i : Nat} {a : Nat} {O f d : String} {v : Value} (w1 : (Cond.fieldLink own i O f d).before a0 Z = true) (F : Fld Z h a O f d v) (hd : decode bytes pc = .ok (.getfield i, 3)) (hp : pc + 3 = pc') (H : Go E R n0 Q h k n pc' Ls (v :: st)) : Go E R n0 Q h k n pc Ls (.ref a :: st) := fun T locs X hh N => by
  subst hp
  obtain ⟨T', X', e', stp⟩ := getF X C.1 C.2.2.2.1 C.2.2.2.2.1 (host := "") (Or.inl w1) Via.refl hh F (g := mkF E.2.2.2.2.1 pc Ls (.ref a :: st)) rfl rfl (hb C.2.1 hd)
  obtain ⟨s₂, o, q1, q⟩ := H T' _ X' e' N
  exact ⟨s₂, o, stp _ q1, q⟩
theorem go_putF (C : Cx E Z own nm bytes mx rt) {i kk : Nat} {a : Nat} {O f d K : String} {v old : Value} {ty : FieldType} (w1 : (Cond.fieldLink own i O f d).before a0 Z = true) (F : Fld Z h a O f d old) (A : Exa Z h a K) (L : (Cond.lays K O f d).before a0 Z = true ∨ ((Cond.laysFinal K O f d).before a0 Z = true ∧ own = O ∧ nm = "<init>")) (wi : (Cond.instantiable K kk).before a0 Z = true)
    (hty : parseFieldDescriptor d = some ty) (hnw : narrow ty v = v) (hf : fits ty v = true) (ge : n0 ≤ a) (hd : decode bytes pc = .ok (.putfield i, 3)) (hp : pc + 3 = pc') (H : ∀ h', Wr h h' a (Jvm.RoadKit.slotOf Z O f d) v → Go E R n0 Q h' k n pc' Ls st) : Go E R n0 Q h k n pc Ls (v :: .ref a :: st) := fun T locs X hh N => by
  subst hp
  obtain ⟨T', h', X', e', W, stp⟩ := putF X C.1 C.2.2.2.1 C.2.2.2.2.1 (host := "") (Or.inl w1) Via.refl hh F A (L.imp id fun q => ⟨q.1, q.2.1, C.2.2.2.2.2.2.2.trans q.2.2⟩) wi hty hnw hf (g := mkF E.2.2.2.2.1 pc Ls (v :: .ref a :: st)) rfl rfl (hb C.2.1 hd)
  obtain ⟨s₂, o, q1, q⟩ := H h' W T' _ X' e' (Fr.snoc X' N ge)
  exact ⟨s₂, o, stp _ q1, q⟩
theorem go_getS (C : Cx E Z own nm bytes mx rt) {i : Nat} {O f d : String} {v : Value} (w1 : (Cond.fieldLink own i O f d).before a0 Z = true) (F : Sta Z h O f d v) (hd : decode bytes pc = .ok (.getstatic i, 3)) (hp : pc + 3 = pc') (H : Go E R n0 Q h k n pc' Ls (v :: st)) : Go E R n0 Q h k n pc Ls st := fun T locs X hh N => by
  subst hp
  obtain ⟨T', X', e', stp⟩ := getS X C.1 C.2.2.2.1 C.2.2.2.2.1 (host := "") w1 Via.refl hh F (g := mkF E.2.2.2.2.1 pc Ls st) rfl (hb C.2.1 hd)
  obtain ⟨s₂, o, q1, q⟩ := H T' _ X' e' N
  exact ⟨s₂, o, stp _ q1, q⟩
theorem sta_keep {h' : Heap} {O f d : String} {v : Value} {ws : List Nat} (F : Sta Z h O f d v) (K : Keep h h' ws) (q : ∀ x ∈ ws, ∃ D, Exa Z h x D) : Sta Z h' O f d v := by
  obtain ⟨cf, i, k, f, st, cell, h1, h2, h3, h4, h5, h6, h7⟩ := F
  refine ⟨cf, i, k, f, st, cell, h1, h2, h3, h4, K.2.1 st cell h5 (fun hm => ?_), h6, h7⟩
  obtain ⟨D, c, k', e1, -, -, e4, -⟩ := q st hm
  cases e1.symm.trans h5
  rw [h6] at e4; cases e4
/-! arrays -/
theorem go_newP (C : Cx E Z own nm bytes mx rt) {aty : ArrayType} {z : Int32} {cap : Nat} (w1 : (Cond.arrayClass (newarray.typeOf aty)).before a0 Z = true) (hd : decode bytes pc = .ok (.newarray aty, 2)) (hn : ¬ z < 0) (hcap : z.toNatClampNeg ≤ cap) (hb8 : cap * 8 ≤ 536870912) {k' n' : Nat} (hk' : k + 1 = k') (hn' : n + cap = n') (hc : k' ≤ R.cells) (hs : n' ≤ R.slots) (hp : pc + 2 = pc')
    (H : ∀ h' cA, Ext h h' → Arr Z h' h.size (newA cA (newarray.typeOf aty) z) (newarray.typeOf aty) → Go E R n0 Q h' k' n' pc' Ls (.ref h.size :: st)) : Go E R n0 Q h k n pc Ls (.int z :: st) := fun T locs X hh N => by
  subst hp hk' hn'
  obtain ⟨T', h', cA, X', e', e2, A2, stp⟩ := newP X C.1 C.2.2.2.1 w1 hh (g := mkF E.2.2.2.2.1 pc Ls (.int z :: st)) rfl (hb C.2.1 hd) rfl hn hcap hb8 hc hs
  obtain ⟨s₂, o, q1, q⟩ := H h' cA e2 A2 T' _ X' e' N
  exact ⟨s₂, o, stp _ q1, q⟩
/-- an array of ints (or bytes, or booleans) by its list -/
def Ai (Z : State) (h : Heap) (a : Nat) (ty : FieldType) (xs : List Int32) : Prop := ∃ c : Cell, Arr Z h a c ty ∧ c.slots = (xs.map Value.int).toArray ∧ xs.length < 2 ^ 31
theorem Ai.lt {a : Nat} {ty : FieldType} {xs : List Int32} (F : Ai Z h a ty xs) : a < h.size := by obtain ⟨c, A, -⟩ := F; exact A.lt
theorem Ai.ext {h' : Heap} {a : Nat} {ty : FieldType} {xs : List Int32} (F : Ai Z h a ty xs) (e : Ext h h') : Ai Z h' a ty xs := by obtain ⟨c, A, r⟩ := F; exact ⟨c, A.ext e, r⟩
theorem Ai.other {h' : Heap} {a b : Nat} {sl : Nat} {v : Value} {ty : FieldType} {xs : List Int32} (F : Ai Z h b ty xs) (W : Wr h h' a sl v) (q : b ≠ a) : Ai Z h' b ty xs := by obtain ⟨c, A, r⟩ := F; exact ⟨c, A.other W q, r⟩
theorem Ai.keep {h' : Heap} {a : Nat} {ws : List Nat} {ty : FieldType} {xs : List Int32} (F : Ai Z h a ty xs) (K : Keep h h' ws) (q : a ∉ ws) : Ai Z h' a ty xs := by obtain ⟨c, A, r⟩ := F; exact ⟨c, ⟨K.2.1 a c A.1 q, A.2⟩, r⟩
theorem Ai.set {h' : Heap} {a : Nat} {i : Nat} {v : Int32} {ty : FieldType} {xs : List Int32} (F : Ai Z h a ty xs) (W : Wr h h' a i (.int v)) : Ai Z h' a ty (xs.set i v) := by
  obtain ⟨c, A, r, q⟩ := F
  refine ⟨_, A.same W, ?_, by simpa using q⟩
  show c.slots.setIfInBounds i (.int v) = _
  rw [r]; apply Array.toList_inj.mp; simp [List.map_set]
theorem Ai.new {cA : ClassId} {a : Nat} {z : Int32} {ty : FieldType} (A : Arr Z h a (newA cA ty z) ty) (hz : ¬ z < 0) (hd : defaultValue ty = .int 0) : Ai Z h a ty (List.replicate z.toNatClampNeg 0) := by
  refine ⟨_, A, ?_, by simpa using (back32 hz).2⟩
  show Array.replicate z.toNatClampNeg (defaultValue ty) = _
  rw [hd]; apply Array.toList_inj.mp; simp
theorem Ai.bound {c : Cell} {xs : List Int32} {j : Int32} (e : c.slots = (xs.map Value.int).toArray) (h0 : 0 ≤ j.toInt) (h1 : j.toInt < xs.length) : ¬ (j < 0 ∨ c.slots.size ≤ j.toNatClampNeg) := by
  rw [e]; simp only [List.size_toArray, List.length_map, Int32.lt_iff_toInt_lt, Int32.toNatClampNeg, Int32.reduceToInt]; omega
theorem go_alen (C : Cx E Z own nm bytes mx rt) {a : Nat} {ty : FieldType} {xs : List Int32} {z : Int32} (F : Ai Z h a ty xs) (hd : decode bytes pc = .ok (.arraylength, 1)) (hz : xs.length.toInt32 = z) (hp : pc + 1 = pc') (H : Go E R n0 Q h k n pc' Ls (.int z :: st)) : Go E R n0 Q h k n pc Ls (.ref a :: st) := by
  subst hp hz
  obtain ⟨c, A, r, q⟩ := F
  refine go_step H fun T locs t X hh s2 => X.arraylength C.1 (by rw [hh]; exact A.1) (State.isArrayOf_alike C.2.2.2.1.alike A.2.1) (g := mkF E.2.2.2.2.1 pc Ls (.ref a :: st)) rfl rfl (hb C.2.1 hd) t ?_
  rw [r]; simpa using s2
theorem ai_get {xs : List Int32} {j v : Int32} {i : Nat} (hi : j.toInt = (i : Int)) (hv : xs[i]? = some v) : ((xs.map Value.int).toArray)[j.toNatClampNeg]? = some (.int v) := by
  have e : j.toNatClampNeg = i := by show j.toInt.toNat = i; omega
  rw [e]; simp [hv]
theorem go_iaload (C : Cx E Z own nm bytes mx rt) {a : Nat} {xs : List Int32} {j v : Int32} (F : Ai Z h a .int xs) {i : Nat} (hi : j.toInt = (i : Int)) (hv : xs[i]? = some v) (hd : decode bytes pc = .ok (.iaload, 1)) (hp : pc + 1 = pc') (H : Go E R n0 Q h k n pc' Ls (.int v :: st)) : Go E R n0 Q h k n pc Ls (.int j :: .ref a :: st) := by
  subst hp
  obtain ⟨c, A, r, q⟩ := F
  have hb1 := Ai.bound (j := j) r (by omega) (by have := (List.getElem?_eq_some_iff.mp hv).1; omega)
  exact go_step H fun T locs t X hh s2 => X.iaload C.1 (by rw [hh]; exact A.1) (State.isArrayOf_alike C.2.2.2.1.alike A.2.1) A.2.2 hb1 (by rw [r]; exact ai_get hi hv) (g := mkF E.2.2.2.2.1 pc Ls (.int j :: .ref a :: st)) rfl rfl (hb C.2.1 hd) t s2
theorem go_baloadB (C : Cx E Z own nm bytes mx rt) {a : Nat} {xs : List Int32} {j v : Int32} (F : Ai Z h a .byte xs) {i : Nat} (hi : j.toInt = (i : Int)) (hv : xs[i]? = some v) (hd : decode bytes pc = .ok (.baload, 1)) (hp : pc + 1 = pc') (H : Go E R n0 Q h k n pc' Ls (.int v :: st)) : Go E R n0 Q h k n pc Ls (.int j :: .ref a :: st) := by
  subst hp
  obtain ⟨c, A, r, q⟩ := F
  have hb1 := Ai.bound (j := j) r (by omega) (by have := (List.getElem?_eq_some_iff.mp hv).1; omega)
  exact go_step H fun T locs t X hh s2 => X.baloadBytes C.1 (by rw [hh]; exact A.1) (State.isArrayOf_alike C.2.2.2.1.alike A.2.1) A.2.2 hb1 (by rw [r]; exact ai_get hi hv) (g := mkF E.2.2.2.2.1 pc Ls (.int j :: .ref a :: st)) rfl rfl (hb C.2.1 hd) t s2
theorem go_baloadZ (C : Cx E Z own nm bytes mx rt) {a : Nat} {xs : List Int32} {j v : Int32} (F : Ai Z h a .boolean xs) {i : Nat} (hi : j.toInt = (i : Int)) (hv : xs[i]? = some v) (hd : decode bytes pc = .ok (.baload, 1)) (hp : pc + 1 = pc') (H : Go E R n0 Q h k n pc' Ls (.int v :: st)) : Go E R n0 Q h k n pc Ls (.int j :: .ref a :: st) := by
  subst hp
  obtain ⟨c, A, r, q⟩ := F
  have hb1 := Ai.bound (j := j) r (by omega) (by have := (List.getElem?_eq_some_iff.mp hv).1; omega)
  exact go_step H fun T locs t X hh s2 => X.baloadBooleans C.1 (by rw [hh]; exact A.1) (State.isArrayOf_alike C.2.2.2.1.alike A.2.1) A.2.2 hb1 (by rw [r]; exact ai_get hi hv) (g := mkF E.2.2.2.2.1 pc Ls (.int j :: .ref a :: st)) rfl rfl (hb C.2.1 hd) t s2
theorem go_iastore (C : Cx E Z own nm bytes mx rt) {a : Nat} {xs : List Int32} {j v : Int32} (F : Ai Z h a .int xs) {i : Nat} {xs' : List Int32} (hi : j.toInt = (i : Int)) (h1 : i < xs.length) (hxs : xs.set i v = xs') (ge : n0 ≤ a) (hd : decode bytes pc = .ok (.iastore, 1)) (hp : pc + 1 = pc')
    (H : ∀ h', Wr h h' a i (.int v) → Ai Z h' a .int xs' → Go E R n0 Q h' k n pc' Ls st) : Go E R n0 Q h k n pc Ls (.int v :: .int j :: .ref a :: st) := fun T locs X hh N => by
  subst hp
  have F' := F
  obtain ⟨c, A, r, q⟩ := F
  obtain ⟨T', h', X', e', W, stp⟩ := stI X C.1 C.2.2.2.1 hh A (Ai.bound r (by omega) (by omega)) (g := mkF E.2.2.2.2.1 pc Ls (.int v :: .int j :: .ref a :: st)) rfl rfl (hb C.2.1 hd)
  have ei : j.toNatClampNeg = i := by show j.toInt.toNat = i; omega
  rw [ei] at W
  obtain ⟨s₂, o, q1, q⟩ := H h' W (hxs ▸ F'.set W) T' _ X' e' (Fr.snoc X' N ge)
  exact ⟨s₂, o, stp _ q1, q⟩
theorem go_bastoreZ (C : Cx E Z own nm bytes mx rt) {a : Nat} {xs : List Int32} {j v : Int32} (F : Ai Z h a .boolean xs) {i : Nat} {xs' : List Int32} (hi : j.toInt = (i : Int)) (h1 : i < xs.length) (hxs : xs.set i v = xs') (hv : v = 0 ∨ v = 1) (ge : n0 ≤ a) (hd : decode bytes pc = .ok (.bastore, 1)) (hp : pc + 1 = pc')
    (H : ∀ h', Wr h h' a i (.int v) → Ai Z h' a .boolean xs' → Go E R n0 Q h' k n pc' Ls st) : Go E R n0 Q h k n pc Ls (.int v :: .int j :: .ref a :: st) := fun T locs X hh N => by
  subst hp
  have F' := F
  have nv : nar .boolean v = v := by rcases hv with rfl | rfl <;> rfl
  obtain ⟨c, A, r, q⟩ := F
  obtain ⟨T', h', X', e', W, stp⟩ := stZ X C.1 C.2.2.2.1 hh A (Ai.bound r (by omega) (by omega)) (g := mkF E.2.2.2.2.1 pc Ls (.int v :: .int j :: .ref a :: st)) rfl rfl (hb C.2.1 hd)
  have ei : j.toNatClampNeg = i := by show j.toInt.toNat = i; omega
  rw [ei] at W
  rw [nv] at W
  obtain ⟨s₂, o, q1, q⟩ := H h' W (hxs ▸ F'.set W) T' _ X' e' (Fr.snoc X' N ge)
  exact ⟨s₂, o, stp _ q1, q⟩
theorem go_bastoreB (C : Cx E Z own nm bytes mx rt) {a : Nat} {xs : List Int32} {j v : Int32} (F : Ai Z h a .byte xs) {i : Nat} {xs' : List Int32} (hi : j.toInt = (i : Int)) (h1 : i < xs.length) (hxs : xs.set i v = xs') (hv : nar .byte v = v) (ge : n0 ≤ a) (hd : decode bytes pc = .ok (.bastore, 1)) (hp : pc + 1 = pc')
    (H : ∀ h', Wr h h' a i (.int v) → Ai Z h' a .byte xs' → Go E R n0 Q h' k n pc' Ls st) : Go E R n0 Q h k n pc Ls (.int v :: .int j :: .ref a :: st) := fun T locs X hh N => by
  subst hp
  have F' := F
  obtain ⟨c, A, r, q⟩ := F
  obtain ⟨T', h', X', e', W, stp⟩ := stB X C.1 C.2.2.2.1 hh A (Ai.bound r (by omega) (by omega)) (g := mkF E.2.2.2.2.1 pc Ls (.int v :: .int j :: .ref a :: st)) rfl rfl (hb C.2.1 hd)
  have ei : j.toNatClampNeg = i := by show j.toInt.toNat = i; omega
  rw [ei] at W
  rw [hv] at W
  obtain ⟨s₂, o, q1, q⟩ := H h' W (hxs ▸ F'.set W) T' _ X' e' (Fr.snoc X' N ge)
  exact ⟨s₂, o, stp _ q1, q⟩
end GoKit
theorem pn0 : plainName "com/example/joinweave/joinweave/graph/SteinerGraphNumbersPinLaw" = true := by first | (simp [plainName, overriddenIn]; done) | decide +kernel
theorem pn1 : plainName "com/example/joinweave/joinweave/graph/SteinerGraph" = true := by first | (simp [plainName, overriddenIn]; done) | decide +kernel
theorem pd0 : parseMethodDescriptor "(II)Z" = some ⟨[.int, .int], some .boolean⟩ := by decide +kernel
theorem pd1 : parseMethodDescriptor "([ZI)[I" = some ⟨[(.array .boolean), .int], some (.array .int)⟩ := by decide +kernel
theorem pd2 : parseMethodDescriptor "([I[ZI)Z" = some ⟨[(.array .int), (.array .boolean), .int], some .boolean⟩ := by decide +kernel
theorem d1_0 : decode method_2_code 0 = .ok (.iload_n 0, 1) := by decide +kernel
theorem d1_1 : decode method_2_code 1 = .ok (.iload_n 1, 1) := by decide +kernel
theorem d1_2 : decode method_2_code 2 = .ok (.iushr, 1) := by decide +kernel
theorem d1_3 : decode method_2_code 3 = .ok (.iconst 1, 1) := by decide +kernel
theorem d1_4 : decode method_2_code 4 = .ok (.iand, 1) := by decide +kernel
theorem d1_5 : decode method_2_code 5 = .ok (.ifCond .eq 7, 3) := by decide +kernel
theorem d1_8 : decode method_2_code 8 = .ok (.iconst 1, 1) := by decide +kernel
theorem d1_9 : decode method_2_code 9 = .ok (.goto 4, 3) := by decide +kernel
theorem d1_12 : decode method_2_code 12 = .ok (.iconst 0, 1) := by decide +kernel
theorem d1_13 : decode method_2_code 13 = .ok (.ireturn, 1) := by decide +kernel
theorem d2_0 : decode prog_156_method_7_code 0 = .ok (.iload_n 1, 1) := by decide +kernel
theorem d2_1 : decode prog_156_method_7_code 1 = .ok (.newarray .int, 2) := by decide +kernel
theorem d2_3 : decode prog_156_method_7_code 3 = .ok (.astore_n 2, 1) := by decide +kernel
theorem d2_4 : decode prog_156_method_7_code 4 = .ok (.iconst 0, 1) := by decide +kernel
theorem d2_5 : decode prog_156_method_7_code 5 = .ok (.istore_n 3, 1) := by decide +kernel
theorem d2_6 : decode prog_156_method_7_code 6 = .ok (.iconst 0, 1) := by decide +kernel
theorem d2_7 : decode prog_156_method_7_code 7 = .ok (.istore 4, 2) := by decide +kernel
theorem d2_9 : decode prog_156_method_7_code 9 = .ok (.iload 4, 2) := by decide +kernel
theorem d2_11 : decode prog_156_method_7_code 11 = .ok (.aload_n 0, 1) := by decide +kernel
theorem d2_12 : decode prog_156_method_7_code 12 = .ok (.arraylength, 1) := by decide +kernel
theorem d2_13 : decode prog_156_method_7_code 13 = .ok (.if_icmp .ge 24, 3) := by decide +kernel
theorem d2_16 : decode prog_156_method_7_code 16 = .ok (.aload_n 0, 1) := by decide +kernel
theorem d2_17 : decode prog_156_method_7_code 17 = .ok (.iload 4, 2) := by decide +kernel
theorem d2_19 : decode prog_156_method_7_code 19 = .ok (.baload, 1) := by decide +kernel
theorem d2_20 : decode prog_156_method_7_code 20 = .ok (.ifCond .eq 11, 3) := by decide +kernel
theorem d2_23 : decode prog_156_method_7_code 23 = .ok (.aload_n 2, 1) := by decide +kernel
theorem d2_24 : decode prog_156_method_7_code 24 = .ok (.iload_n 3, 1) := by decide +kernel
theorem d2_25 : decode prog_156_method_7_code 25 = .ok (.iinc 3 1, 3) := by decide +kernel
theorem d2_28 : decode prog_156_method_7_code 28 = .ok (.iload 4, 2) := by decide +kernel
theorem d2_30 : decode prog_156_method_7_code 30 = .ok (.iastore, 1) := by decide +kernel
theorem d2_31 : decode prog_156_method_7_code 31 = .ok (.iinc 4 1, 3) := by decide +kernel
theorem d2_34 : decode prog_156_method_7_code 34 = .ok (.goto (-25), 3) := by decide +kernel
theorem d2_37 : decode prog_156_method_7_code 37 = .ok (.aload_n 2, 1) := by decide +kernel
theorem d2_38 : decode prog_156_method_7_code 38 = .ok (.areturn, 1) := by decide +kernel
theorem d3_0 : decode method_3_code 0 = .ok (.iload_n 2, 1) := by decide +kernel
theorem d3_1 : decode method_3_code 1 = .ok (.aload_n 0, 1) := by decide +kernel
theorem d3_2 : decode method_3_code 2 = .ok (.arraylength, 1) := by decide +kernel
theorem d3_3 : decode method_3_code 3 = .ok (.if_icmp .lt 5, 3) := by decide +kernel
theorem d3_6 : decode method_3_code 6 = .ok (.iconst 1, 1) := by decide +kernel
theorem d3_7 : decode method_3_code 7 = .ok (.ireturn, 1) := by decide +kernel
theorem d3_8 : decode method_3_code 8 = .ok (.aload_n 0, 1) := by decide +kernel
theorem d3_9 : decode method_3_code 9 = .ok (.iload_n 2, 1) := by decide +kernel
theorem d3_10 : decode method_3_code 10 = .ok (.iaload, 1) := by decide +kernel
theorem d3_11 : decode method_3_code 11 = .ok (.istore_n 3, 1) := by decide +kernel
theorem d3_12 : decode method_3_code 12 = .ok (.iload_n 3, 1) := by decide +kernel
theorem d3_13 : decode method_3_code 13 = .ok (.ifCond .lt 9, 3) := by decide +kernel
theorem d3_16 : decode method_3_code 16 = .ok (.iload_n 3, 1) := by decide +kernel
theorem d3_17 : decode method_3_code 17 = .ok (.aload_n 1, 1) := by decide +kernel
theorem d3_18 : decode method_3_code 18 = .ok (.arraylength, 1) := by decide +kernel
theorem d3_19 : decode method_3_code 19 = .ok (.if_icmp .lt 5, 3) := by decide +kernel
theorem d3_22 : decode method_3_code 22 = .ok (.iconst 0, 1) := by decide +kernel
theorem d3_23 : decode method_3_code 23 = .ok (.ireturn, 1) := by decide +kernel
theorem d3_24 : decode method_3_code 24 = .ok (.aload_n 1, 1) := by decide +kernel
theorem d3_25 : decode method_3_code 25 = .ok (.iload_n 3, 1) := by decide +kernel
theorem d3_26 : decode method_3_code 26 = .ok (.baload, 1) := by decide +kernel
theorem d3_27 : decode method_3_code 27 = .ok (.ifCond .ne 5, 3) := by decide +kernel
theorem d3_30 : decode method_3_code 30 = .ok (.iconst 0, 1) := by decide +kernel
theorem d3_31 : decode method_3_code 31 = .ok (.ireturn, 1) := by decide +kernel
theorem d3_32 : decode method_3_code 32 = .ok (.iload_n 2, 1) := by decide +kernel
theorem d3_33 : decode method_3_code 33 = .ok (.ifCond .eq 12, 3) := by decide +kernel
theorem d3_36 : decode method_3_code 36 = .ok (.aload_n 0, 1) := by decide +kernel
theorem d3_37 : decode method_3_code 37 = .ok (.iload_n 2, 1) := by decide +kernel
theorem d3_38 : decode method_3_code 38 = .ok (.iconst 1, 1) := by decide +kernel
theorem d3_39 : decode method_3_code 39 = .ok (.isub, 1) := by decide +kernel
theorem d3_40 : decode method_3_code 40 = .ok (.iaload, 1) := by decide +kernel
theorem d3_41 : decode method_3_code 41 = .ok (.iload_n 3, 1) := by decide +kernel
theorem d3_42 : decode method_3_code 42 = .ok (.if_icmp .ge 7, 3) := by decide +kernel
theorem d3_45 : decode method_3_code 45 = .ok (.iconst 1, 1) := by decide +kernel
theorem d3_46 : decode method_3_code 46 = .ok (.goto 4, 3) := by decide +kernel
theorem d3_49 : decode method_3_code 49 = .ok (.iconst 0, 1) := by decide +kernel
theorem d3_50 : decode method_3_code 50 = .ok (.ireturn, 1) := by decide +kernel
abbrev R0 : Room := { frames := 0, cells := 0, slots := 0, locals := 0 }
abbrev RN : Room := { frames := 0, cells := 1, slots := 6, locals := 0 }
def b2i (b : Bool) : Int32 := if b then 1 else 0
theorem b2i01 (b : Bool) : b2i b = 0 ∨ b2i b = 1 := by cases b <;> simp [b2i]
def bl (bs : List Bool) : List Int32 := bs.map b2i
theorem bl_len (bs : List Bool) : (bl bs).length = bs.length := List.length_map ..
theorem bl_set (bs : List Bool) (i : Nat) (b : Bool) : (bl bs).set i (b2i b) = bl (bs.set i b) := (List.map_set ..).symm
theorem bl_at {bs : List Bool} {i : Nat} {b : Bool} (h : bs[i]? = some b) : (bl bs)[i]? = some (b2i b) := by unfold bl; rw [List.getElem?_map, h]; rfl
def cnt : List Bool → Nat
  | [] => 0
  | b :: bs => (if b then 1 else 0) + cnt bs
def posI : List Bool → Nat → List Int32
  | [], _ => []
  | b :: bs, i => if b then Int32.ofNat i :: posI bs (i + 1) else posI bs (i + 1)
theorem cnt_le : ∀ bs : List Bool, cnt bs ≤ bs.length
  | [] => Nat.le_refl _
  | b :: bs => by have := cnt_le bs; cases b <;> simp [cnt] <;> omega
theorem cnt_app : ∀ xs ys : List Bool, cnt (xs ++ ys) = cnt xs + cnt ys
  | [], ys => by simp [cnt]
  | b :: xs, ys => by have := cnt_app xs ys; simp only [List.cons_append, cnt]; omega
theorem cnt_set : ∀ (bs : List Bool) (i : Nat) (b : Bool), bs[i]? = some false → cnt (bs.set i b) = cnt bs + (if b then 1 else 0)
  | [], i, b, h => by simp at h
  | c :: bs, 0, b, h => by simp at h; subst h; cases b <;> simp [cnt] <;> omega
  | c :: bs, i + 1, b, h => by
    have := cnt_set bs i b (by simpa using h)
    simp only [List.set_cons_succ, cnt]; omega
theorem cnt_rep (n : Nat) : cnt (List.replicate n false) = 0 := by induction n with | zero => rfl | succ n ih => simp [List.replicate_succ, cnt, ih]
theorem pos_app : ∀ (xs ys : List Bool) (i : Nat), posI (xs ++ ys) i = posI xs i ++ posI ys (i + xs.length)
  | [], ys, i => by simp [posI]
  | b :: xs, ys, i => by
    have := pos_app xs ys (i + 1)
    have e : i + 1 + xs.length = i + (b :: xs).length := by simp; omega
    rw [e] at this
    cases b <;> simp [posI, this]
theorem pos_len : ∀ (xs : List Bool) (i : Nat), (posI xs i).length = cnt xs
  | [], i => rfl
  | b :: xs, i => by have := pos_len xs (i + 1); cases b <;> simp [posI, cnt, this]; omega
def okH (rs : List Int32) (bs : List Bool) (i : Nat) : Bool := match rs[i]? with
  | none => true
  | some v => decide (0 ≤ v.toInt) && (decide (v.toInt < bs.length) && (decide (bs[v.toInt.toNat]? = some true) && (decide (i = 0) || match rs[i - 1]? with
    | none => false
    | some u => decide (u.toInt < v.toInt))))
theorem okH0 : ∀ i : Fin 6, okH (posI [] 0) [] i.val = true := by decide +kernel
theorem okH1 : ∀ (b0 : Bool) (i : Fin 6), okH (posI [b0] 0) [b0] i.val = true := by decide +kernel
theorem okH2 : ∀ (b0 b1 : Bool) (i : Fin 6), okH (posI [b0, b1] 0) [b0, b1] i.val = true := by decide +kernel
theorem okH3 : ∀ (b0 b1 b2 : Bool) (i : Fin 6), okH (posI [b0, b1, b2] 0) [b0, b1, b2] i.val = true := by decide +kernel
theorem okH4 : ∀ (b0 b1 b2 b3 : Bool) (i : Fin 6), okH (posI [b0, b1, b2, b3] 0) [b0, b1, b2, b3] i.val = true := by decide +kernel
theorem okH5 : ∀ (b0 b1 b2 b3 b4 : Bool) (i : Fin 6), okH (posI [b0, b1, b2, b3, b4] 0) [b0, b1, b2, b3, b4] i.val = true := by decide +kernel
theorem okH6 : ∀ (b0 b1 b2 b3 b4 b5 : Bool) (i : Fin 6), okH (posI [b0, b1, b2, b3, b4, b5] 0) [b0, b1, b2, b3, b4, b5] i.val = true := by decide +kernel
theorem okHall (bs : List Bool) (h : bs.length ≤ 6) (i : Fin 6) : okH (posI bs 0) bs i.val = true := by
  match bs, h with
  | [], _ => exact okH0 i
  | [b0], _ => exact okH1 b0 i
  | [b0, b1], _ => exact okH2 b0 b1 i
  | [b0, b1, b2], _ => exact okH3 b0 b1 b2 i
  | [b0, b1, b2, b3], _ => exact okH4 b0 b1 b2 b3 i
  | [b0, b1, b2, b3, b4], _ => exact okH5 b0 b1 b2 b3 b4 i
  | [b0, b1, b2, b3, b4, b5], _ => exact okH6 b0 b1 b2 b3 b4 b5 i
  | _ :: _ :: _ :: _ :: _ :: _ :: _ :: t, h => exact absurd h (by simp only [List.length_cons]; omega)
theorem i_len {n : Nat} (h : n < 2 ^ 31) : (n.toInt32).toInt = (n : Int) := len_toInt h
def tb (x i : Int32) : Bool := !decide ((XT.ushr x i &&& (1 : Int32)).toInt = 0)
def Qb (z : Int32) (h0 : Heap) (v : Option Value) (h : Heap) : Prop := v = some (.int z) ∧ h0 = h
def Qn (Z : State) (n0 : Nat) (h0 : Heap) (bs : List Bool) (v : Option Value) (h : Heap) : Prop := ∃ r : Nat, v = some (.ref r) ∧ Keep h0 h [] ∧ Ai Z h r .int (posI bs 0)
set_option maxRecDepth 65536 in
set_option maxHeartbeats 4000000 in
theorem rmB (Z : State) (x y : Int32) (h0 : Heap) (n0 : Nat) : Met Z (⟨"com/example/joinweave/joinweave/graph/SteinerGraphNumbersPinLaw", "bit", "(II)Z"⟩ : MethodName) method_2_code 2 (some .boolean) R0 #[.int x, .int y] h0 n0 (Qb (b2i (tb x y)) h0) := by
  refine met_of (Ls := #[.val (.int x), .val (.int y)]) (plainFor_of_name pn0) (fun m => by first | (simp [entryFrame, mkF, argsToLocals, Value.category]; done) | rfl) ?_
  intro E (C : Cx E Z "com/example/joinweave/joinweave/graph/SteinerGraphNumbersPinLaw" "bit" method_2_code 2 (some .boolean))
  refine go_iloadN C (pc' := 1) d1_0 rfl rfl ?_
  refine go_iloadN C (pc' := 2) d1_1 rfl rfl ?_
  refine go_iushr C (pc' := 3) d1_2 rfl ?_
  refine go_iconst C (pc' := 4) (z := 1) d1_3 rfl rfl ?_
  refine go_iand C (pc' := 5) d1_4 rfl ?_
  refine go_if C (pcY := 12) (pcN := 8) d1_5 (by decide) (by decide) rfl ?_ ?_
  · intro q1
    refine go_iconst C (pc' := 13) (z := 0) d1_12 rfl rfl ?_
    refine go_retZ C d1_13 (by decide) (by decide) (by decide) ?_
    exact ⟨by rw [show tb x y = false from by simpa [tb, rel] using q1]; rfl, rfl⟩
  · intro q1
    refine go_iconst C (pc' := 9) (z := 1) d1_8 rfl rfl ?_
    refine go_goto C (pc' := 13) d1_9 (by decide) (by decide) ?_
    refine go_retZ C d1_13 (by decide) (by decide) (by decide) ?_
    exact ⟨by rw [show tb x y = true from by simpa [tb, rel] using q1]; rfl, rfl⟩
theorem set_app {xs : List Int32} {m : Nat} {v : Int32} : (xs ++ List.replicate (m + 1) 0).set xs.length v = (xs ++ [v]) ++ List.replicate m 0 := by
  rw [List.set_append_right _ _ (Nat.le_refl _), Nat.sub_self, List.replicate_succ, List.set_cons_zero, List.append_assoc]; rfl
set_option maxRecDepth 65536 in
set_option maxHeartbeats 4000000 in
theorem loopN (Z : State) (a0 : Array Value) (hw : ∀ d ∈ tables_1, d.before a0 Z = true) (E : Noise) (C : Cx E Z "com/example/joinweave/joinweave/graph/SteinerGraph" "numbers" prog_156_method_7_code 5 (some (.array .int))) (a r : Nat) (c : Int32) (bs : List Bool) (h0 : Heap) (n0 : Nat) (hn0 : n0 ≤ h0.size) (a_lt : a < h0.size) (hl : bs.length < 2 ^ 31) (zs ys : List Bool) (h : Heap) (s e : Int32) (hb : ys ++ zs = bs) (he : e.toInt = (ys.length : Int)) (hs : s.toInt = (cnt ys : Int)) (K : Keep h0 h []) (A : Ai Z h a .boolean (bl bs)) (B : Ai Z h r .int (posI ys 0 ++ List.replicate (cnt zs) 0)) (N : h0.size ≤ r) : Go E RN n0 (Qn Z n0 h0 bs) h 1 6 9 #[.val (.ref a), .val (.int c), .val (.ref r), .val (.int s), .val (.int e)] [] := by
  induction zs generalizing ys h s e with
  | nil =>
    refine go_iload C (pc' := 11) d2_9 rfl rfl ?_
    refine go_aloadN C (pc' := 12) d2_11 rfl rfl rfl ?_
    refine go_alen C (pc' := 13) (z := bs.length.toInt32) A d2_12 (by rw [bl_len]) rfl ?_
    refine go_icY C (pc' := 37) d2_13 ((rel_holds .ge _ _).mpr (by show (bs.length.toInt32).toInt ≤ e.toInt; rw [i_len hl]; simp only [List.append_nil] at hb; subst hb; omega)) (by decide) (by decide) ?_
    refine go_aloadN C (pc' := 38) d2_37 rfl rfl rfl ?_
    refine go_retA C d2_38 rfl rfl rfl (by decide) (by decide) ?_
    simp only [List.append_nil] at hb
    subst hb
    exact ⟨r, rfl, K, by simpa [cnt] using B⟩
  | cons b zs ih =>
    have hj : ys.length < bs.length := by rw [← hb]; simp
    have hat : bs[ys.length]? = some b := by rw [← hb]; simp
    refine go_iload C (pc' := 11) d2_9 rfl rfl ?_
    refine go_aloadN C (pc' := 12) d2_11 rfl rfl rfl ?_
    refine go_alen C (pc' := 13) (z := bs.length.toInt32) A d2_12 (by rw [bl_len]) rfl ?_
    refine go_icN C (pc' := 16) d2_13 (Bool.eq_false_iff.mpr fun q => by have q2 : (bs.length.toInt32).toInt ≤ e.toInt := (rel_holds .ge _ _).mp q; rw [i_len hl] at q2; omega) rfl ?_
    refine go_aloadN C (pc' := 17) d2_16 rfl rfl rfl ?_
    refine go_iload C (pc' := 19) d2_17 rfl rfl ?_
    refine go_baloadZ C (pc' := 20) A he (bl_at hat) d2_19 rfl ?_
    have hs1 : (e + (1 : Int32)).toInt = ((ys ++ [b]).length : Int) := by
      have q1 := c_iadd e 1; have q2 := rng32 (e + 1); have q3 : (1 : Int32).toInt = 1 := by decide
      rw [List.length_append, List.length_singleton]; omega
    have hbl := cnt_le bs
    cases b with
    | false =>
      refine go_ifY C (pc' := 31) d2_20 rfl (by decide) (by decide) ?_
      refine go_iinc C (pc' := 34) (z := 1) (Ls' := #[.val (.ref a), .val (.int c), .val (.ref r), .val (.int s), .val (.int (e + (1 : Int32)))]) d2_31 rfl rfl rfl rfl ?_
      refine go_goto C (pc' := 9) d2_34 (by decide) (by decide) ?_
      exact ih (ys ++ [false]) h s (e + (1 : Int32)) (by rw [← hb, List.append_assoc]; rfl) hs1 (by rw [cnt_app]; simpa [cnt] using hs) K A (by rw [pos_app]; simpa [posI, cnt] using B)
    | true =>
      refine go_ifN C (pc' := 23) d2_20 rfl rfl ?_
      have hc1 : cnt bs = cnt ys + 1 + cnt zs := by rw [← hb, cnt_app]; simp only [cnt, if_true]; omega
      have hs2 : (s + (1 : Int32)).toInt = (cnt (ys ++ [true]) : Int) := by
        have q1 := c_iadd s 1; have q2 := rng32 (s + 1); have q3 : (1 : Int32).toInt = 1 := by decide
        rw [cnt_app]; simp only [cnt, if_true]; omega
      refine go_aloadN C (pc' := 24) d2_23 rfl rfl rfl ?_
      refine go_iloadN C (pc' := 25) d2_24 rfl rfl ?_
      refine go_iinc C (pc' := 28) (z := 1) (Ls' := #[.val (.ref a), .val (.int c), .val (.ref r), .val (.int (s + (1 : Int32))), .val (.int e)]) d2_25 rfl rfl rfl rfl ?_
      refine go_iload C (pc' := 30) d2_28 rfl rfl ?_
      refine go_iastore C (pc' := 31) (i := (posI ys 0).length) (xs' := posI (ys ++ [true]) 0 ++ List.replicate (cnt zs) 0) B (by rw [pos_len]; exact hs) (by rw [List.length_append, List.length_replicate]; simp only [cnt, if_true]; omega) (by rw [show cnt (true :: zs) = cnt zs + 1 from by simp only [cnt, if_true]; omega, set_app, pos_app, Nat.zero_add, show posI [true] ys.length = [e] from by rw [show e = Int32.ofNat ys.length from Int32.toInt_inj.mp (by rw [he, Int32.toInt_ofNat_small (by omega)])]; rfl]) (Nat.le_trans hn0 N) d2_30 rfl ?_
      intro h2 W2 B2
      have ner : a ≠ r := fun q => by have := a_lt; omega
      refine go_iinc C (pc' := 34) (z := 1) (Ls' := #[.val (.ref a), .val (.int c), .val (.ref r), .val (.int (s + (1 : Int32))), .val (.int (e + (1 : Int32)))]) d2_31 rfl rfl rfl rfl ?_
      refine go_goto C (pc' := 9) d2_34 (by decide) (by decide) ?_
      exact ih (ys ++ [true]) h2 (s + (1 : Int32)) (e + (1 : Int32)) (by rw [← hb, List.append_assoc]; rfl) hs1 hs2 (keep_wr K W2 N) (A.other W2 ner) B2
set_option maxRecDepth 65536 in
set_option maxHeartbeats 4000000 in
theorem rmN (Z : State) (a0 : Array Value) (hw : ∀ d ∈ tables_1, d.before a0 Z = true) (a : Nat) (c : Int32) (bs : List Bool) (h0 : Heap) (n0 : Nat) (hn0 : n0 ≤ h0.size) (hb6 : bs.length ≤ 6) (hc : c.toInt = (cnt bs : Int)) (A : Ai Z h0 a .boolean (bl bs)) : Met Z (⟨"com/example/joinweave/joinweave/graph/SteinerGraph", "numbers", "([ZI)[I"⟩ : MethodName) prog_156_method_7_code 5 (some (.array .int)) RN #[.ref a, .int c] h0 n0 (Qn Z n0 h0 bs) := by
  refine met_of (Ls := #[.val (.ref a), .val (.int c), .unset, .unset, .unset]) (plainFor_of_name pn1) (fun m => by first | (simp [entryFrame, mkF, argsToLocals, Value.category]; done) | rfl) ?_
  intro E (C : Cx E Z "com/example/joinweave/joinweave/graph/SteinerGraph" "numbers" prog_156_method_7_code 5 (some (.array .int)))
  have hcl := cnt_le bs
  refine go_iloadN C (pc' := 1) d2_0 rfl rfl ?_
  refine go_newP C (aty := .int) (pc' := 3) (k' := 1) (n' := 6) (cap := 6) (own_w hw (i := 10) rfl) d2_1 (by rw [Int32.lt_iff_toInt_lt]; show ¬ c.toInt < 0; omega) (by show c.toInt.toNat ≤ 6; omega) (by decide) rfl rfl (by decide) (by decide) rfl ?_
  intro h1 cA x1 A1
  obtain ⟨r, er⟩ : ∃ q, q = h0.size := ⟨_, rfl⟩
  rw [← er] at A1 ⊢
  have B1 : Ai Z h1 r .int (List.replicate c.toNatClampNeg 0) := Ai.new A1 (by rw [Int32.lt_iff_toInt_lt]; show ¬ c.toInt < 0; omega) rfl
  rw [show c.toNatClampNeg = cnt bs from by show c.toInt.toNat = _; omega] at B1
  refine go_astoreN C (pc' := 4) (Ls' := #[.val (.ref a), .val (.int c), .val (.ref r), .unset, .unset]) d2_3 rfl rfl rfl ?_
  refine go_iconst C (pc' := 5) (z := 0) d2_4 rfl rfl ?_
  refine go_istoreN C (pc' := 6) (Ls' := #[.val (.ref a), .val (.int c), .val (.ref r), .val (.int (0 : Int32)), .unset]) d2_5 rfl rfl ?_
  refine go_iconst C (pc' := 7) (z := 0) d2_6 rfl rfl ?_
  refine go_istore C (pc' := 9) (Ls' := #[.val (.ref a), .val (.int c), .val (.ref r), .val (.int (0 : Int32)), .val (.int (0 : Int32))]) d2_7 rfl rfl ?_
  exact loopN Z a0 hw E C a r c bs h0 n0 hn0 A.lt (by omega) bs [] h1 0 0 rfl rfl rfl ((Keep.refl h0 []).ext x1) (A.ext x1) B1 (by omega)
set_option maxRecDepth 65536 in
set_option maxHeartbeats 4000000 in
theorem rmO (Z : State) (a b : Nat) (j : Int32) (i : Nat) (rs : List Int32) (bs : List Bool) (h0 : Heap) (n0 : Nat) (hi : j.toInt = (i : Int)) (hk : okH rs bs i = true) (A : Ai Z h0 a .int rs) (B : Ai Z h0 b .boolean (bl bs)) : Met Z (⟨"com/example/joinweave/joinweave/graph/SteinerGraphNumbersPinLaw", "ok", "([I[ZI)Z"⟩ : MethodName) method_3_code 4 (some .boolean) R0 #[.ref a, .ref b, .int j] h0 n0 (Qb 1 h0) := by
  refine met_of (Ls := #[.val (.ref a), .val (.ref b), .val (.int j), .unset]) (plainFor_of_name pn0) (fun m => by first | (simp [entryFrame, mkF, argsToLocals, Value.category]; done) | rfl) ?_
  intro E (C : Cx E Z "com/example/joinweave/joinweave/graph/SteinerGraphNumbersPinLaw" "ok" method_3_code 4 (some .boolean))
  have hbl : bs.length < 2 ^ 31 := by obtain ⟨_, _, _, q⟩ := B; rwa [bl_len] at q
  have hrl : rs.length < 2 ^ 31 := by obtain ⟨_, _, _, q⟩ := A; exact q
  unfold okH at hk
  cases hr : rs[i]? with
  | none =>
    have hge : rs.length ≤ i := List.getElem?_eq_none_iff.mp hr
    refine go_iloadN C (pc' := 1) d3_0 rfl rfl ?_
    refine go_aloadN C (pc' := 2) d3_1 rfl rfl rfl ?_
    refine go_alen C (pc' := 3) (z := rs.length.toInt32) A d3_2 rfl rfl ?_
    refine go_icN C (pc' := 6) d3_3 (Bool.eq_false_iff.mpr fun q => by have q2 : j.toInt < (rs.length.toInt32).toInt := (rel_holds .lt _ _).mp q; rw [i_len hrl] at q2; omega) rfl ?_
    refine go_iconst C (pc' := 7) (z := 1) d3_6 rfl rfl ?_
    refine go_retZ C d3_7 (by decide) (by decide) (by decide) ?_
    exact ⟨rfl, rfl⟩
  | some v =>
    rw [hr] at hk
    simp only [Bool.and_eq_true, Bool.or_eq_true, decide_eq_true_eq] at hk
    obtain ⟨k1, k2, k3, k4⟩ := hk
    have hlt : i < rs.length := (List.getElem?_eq_some_iff.mp hr).1
    refine go_iloadN C (pc' := 1) d3_0 rfl rfl ?_
    refine go_aloadN C (pc' := 2) d3_1 rfl rfl rfl ?_
    refine go_alen C (pc' := 3) (z := rs.length.toInt32) A d3_2 rfl rfl ?_
    refine go_icY C (pc' := 8) d3_3 ((rel_holds .lt _ _).mpr (by show j.toInt < (rs.length.toInt32).toInt; rw [i_len hrl]; omega)) (by decide) (by decide) ?_
    refine go_aloadN C (pc' := 9) d3_8 rfl rfl rfl ?_
    refine go_iloadN C (pc' := 10) d3_9 rfl rfl ?_
    refine go_iaload C (pc' := 11) A hi hr d3_10 rfl ?_
    refine go_istoreN C (pc' := 12) (Ls' := #[.val (.ref a), .val (.ref b), .val (.int j), .val (.int v)]) d3_11 rfl rfl ?_
    refine go_iloadN C (pc' := 13) d3_12 rfl rfl ?_
    refine go_ifN C (pc' := 16) d3_13 (Bool.eq_false_iff.mpr fun q => by have q2 : v.toInt < 0 := (rel_holds0 .lt _).mp q; omega) rfl ?_
    refine go_iloadN C (pc' := 17) d3_16 rfl rfl ?_
    refine go_aloadN C (pc' := 18) d3_17 rfl rfl rfl ?_
    refine go_alen C (pc' := 19) (z := bs.length.toInt32) B d3_18 (by rw [bl_len]) rfl ?_
    refine go_icY C (pc' := 24) d3_19 ((rel_holds .lt _ _).mpr (by show v.toInt < (bs.length.toInt32).toInt; rw [i_len hbl]; exact k2)) (by decide) (by decide) ?_
    refine go_aloadN C (pc' := 25) d3_24 rfl rfl rfl ?_
    refine go_iloadN C (pc' := 26) d3_25 rfl rfl ?_
    refine go_baloadZ C (pc' := 27) B (i := v.toInt.toNat) (by omega) (bl_at k3) d3_26 rfl ?_
    refine go_ifY C (pc' := 32) d3_27 rfl (by decide) (by decide) ?_
    refine go_iloadN C (pc' := 33) d3_32 rfl rfl ?_
    refine go_if C (pcY := 45) (pcN := 36) d3_33 (by decide) (by decide) rfl ?_ ?_
    · intro q1
      refine go_iconst C (pc' := 46) (z := 1) d3_45 rfl rfl ?_
      refine go_goto C (pc' := 50) d3_46 (by decide) (by decide) ?_
      refine go_retZ C d3_50 (by decide) (by decide) (by decide) ?_
      exact ⟨rfl, rfl⟩
    · intro q1
      have q2 : ¬ j.toInt = 0 := q1
      have k5 := k4.resolve_left (by omega)
      cases hu : rs[i - 1]? with
      | none => rw [hu] at k5; cases k5
      | some u =>
        rw [hu] at k5
        have k6 : u.toInt < v.toInt := of_decide_eq_true k5
        have hj1 : (j - (1 : Int32)).toInt = ((i - 1 : Nat) : Int) := by
          have q3 := c_isub j 1
          have q4 := rng32 (j - 1)
          have q5 : (1 : Int32).toInt = 1 := by decide
          have q6 := rng32 j
          omega
        refine go_aloadN C (pc' := 37) d3_36 rfl rfl rfl ?_
        refine go_iloadN C (pc' := 38) d3_37 rfl rfl ?_
        refine go_iconst C (pc' := 39) (z := 1) d3_38 rfl rfl ?_
        refine go_isub C (pc' := 40) d3_39 rfl ?_
        refine go_iaload C (pc' := 41) A hj1 hu d3_40 rfl ?_
        refine go_iloadN C (pc' := 42) d3_41 rfl rfl ?_
        refine go_icN C (pc' := 45) d3_42 (Bool.eq_false_iff.mpr fun q => by have q2 : v.toInt ≤ u.toInt := (rel_holds .ge _ _).mp q; omega) rfl ?_
        refine go_iconst C (pc' := 46) (z := 1) d3_45 rfl rfl ?_
        refine go_goto C (pc' := 50) d3_46 (by decide) (by decide) ?_
        refine go_retZ C d3_50 (by decide) (by decide) (by decide) ?_
        exact ⟨rfl, rfl⟩
def Q1 (v : Option Value) (h : Heap) : Prop := v = some (.int 1)
theorem inc1 (c : Int32) (m : Nat) (hc : c.toInt = (m : Int)) (hm : m < 100) : (c + (1 : Int32)).toInt = ((m + if true = true then 1 else 0 : Nat) : Int) := by
  have q1 := c_iadd c 1; have q2 := rng32 (c + 1); have q3 : (1 : Int32).toInt = 1 := by decide
  simp only [if_true]; omega
theorem own_n (y : Int32) : ∃ N : Nat, (Int32.toInt ((y &&& (2147483647 : Int32)) % (7 : Int32))) = (N : Int) ∧ N < 7 := by
  have m1 := c_mask y 2147483647 31 (by decide) (by decide)
  have m2 := (c_irem (y &&& (2147483647 : Int32)) 7 7 (by decide)).1 (by omega)
  exact ⟨(Int32.toInt ((y &&& (2147483647 : Int32)) % (7 : Int32))).toNat, by omega, by omega⟩
set_option maxRecDepth 65536 in
set_option maxHeartbeats 4000000 in
theorem mid (Z : State) (a0 : Array Value) (hw : ∀ d ∈ tables_1, d.before a0 Z = true) (E : Noise) (C : Cx E Z "com/example/joinweave/joinweave/graph/SteinerGraphNumbersPinLaw" "law" code 6 (some .boolean)) (x y nn : Int32) (N : Nat) (hN : nn.toInt = (N : Int)) (hN6 : N < 7) (a : Nat) (h0 : Heap) (n0 : Nat) (Z0 : n0 ≤ h0.size) (ga : n0 ≤ a) (A0 : Ai Z h0 a .boolean (bl (List.replicate N false))) : Go E room_1 n0 Q1 h0 1 6 15 #[.val (.int x), .val (.int y), .val (.int nn), .val (.ref a), .val (.int (0 : Int32)), .unset] [] := by
  have J146 : ∀ (h : Heap) (bs : List Bool) (c : Int32), Ai Z h a .boolean (bl bs) → bs.length = N → c.toInt = (cnt bs : Int) → n0 ≤ h.size → Go E room_1 n0 Q1 h 1 6 146 #[.val (.int x), .val (.int y), .val (.int nn), .val (.ref a), .val (.int c), .unset] [] := by
    intro h bs c A hb hc hz
    have hcl := cnt_le bs
    refine go_aloadN C (pc' := 147) at_146 rfl rfl rfl ?_
    refine go_iload C (pc' := 149) at_147 rfl rfl ?_
    refine go_callS C (pc' := 152) (k' := 2) (n' := 12) (argsL := [(.ref a), (.int c)]) (rest := []) (own_w hw (i := 6) rfl) (own_w hw (i := 7) rfl) (own_w hw (i := 8) rfl) (own_w hw (i := 9) rfl) (rmN Z a0 hw a c bs h n0 hz (by omega) hc A) at_149 rfl rfl (lenOf pd1 rfl) (by decide) (by decide) 0 rfl (by decide) rfl rfl (by decide) (by decide) rfl ?_
    rintro _ hr ⟨r, rfl, K, B⟩
    have A2 := A.keep K nin0
    show Go E room_1 n0 Q1 hr 2 12 152 #[.val (.int x), .val (.int y), .val (.int nn), .val (.ref a), .val (.int c), .unset] [(.ref r)]
    refine go_astore C (pc' := 154) (Ls' := #[.val (.int x), .val (.int y), .val (.int nn), .val (.ref a), .val (.int c), .val (.ref r)]) at_152 rfl rfl rfl ?_
    refine go_aload C (pc' := 156) at_154 rfl rfl rfl ?_
    refine go_alen C (pc' := 157) (z := c) B at_156 (by rw [pos_len]; exact Int32.toInt_inj.mp (by rw [i_len (by omega)]; omega)) rfl ?_
    refine go_iload C (pc' := 159) at_157 rfl rfl ?_
    refine go_icY C (pc' := 164) at_159 (teq rfl).1 (by decide) (by decide) ?_
    refine go_aload C (pc' := 166) at_164 rfl rfl rfl ?_
    refine go_aloadN C (pc' := 167) at_166 rfl rfl rfl ?_
    refine go_iconst C (pc' := 168) (z := 0) at_167 rfl rfl ?_
    refine go_callS C (pc' := 171) (k' := 2) (n' := 12) (argsL := [(.ref r), (.ref a), (.int (0 : Int32))]) (rest := []) (own_w hw (i := 11) rfl) (own_w hw (i := 12) rfl) (own_w hw (i := 4) rfl) (own_w hw (i := 13) rfl) (rmO Z r a 0 0 (posI bs 0) bs hr n0 rfl (okHall bs (by omega) 0) B A2) at_168 rfl rfl (lenOf pd2 rfl) (by decide) (by decide) 0 rfl (by decide) rfl rfl (by decide) (by decide) rfl ?_
    rintro _ _ ⟨rfl, rfl⟩
    show Go E room_1 n0 Q1 hr 2 12 171 #[.val (.int x), .val (.int y), .val (.int nn), .val (.ref a), .val (.int c), .val (.ref r)] [(.int (1 : Int32))]
    refine go_ifN C (pc' := 174) at_171 rfl rfl ?_
    refine go_aload C (pc' := 176) at_174 rfl rfl rfl ?_
    refine go_aloadN C (pc' := 177) at_176 rfl rfl rfl ?_
    refine go_iconst C (pc' := 178) (z := 1) at_177 rfl rfl ?_
    refine go_callS C (pc' := 181) (k' := 2) (n' := 12) (argsL := [(.ref r), (.ref a), (.int (1 : Int32))]) (rest := []) (own_w hw (i := 11) rfl) (own_w hw (i := 12) rfl) (own_w hw (i := 4) rfl) (own_w hw (i := 13) rfl) (rmO Z r a 1 1 (posI bs 0) bs hr n0 rfl (okHall bs (by omega) 1) B A2) at_178 rfl rfl (lenOf pd2 rfl) (by decide) (by decide) 0 rfl (by decide) rfl rfl (by decide) (by decide) rfl ?_
    rintro _ _ ⟨rfl, rfl⟩
    show Go E room_1 n0 Q1 hr 2 12 181 #[.val (.int x), .val (.int y), .val (.int nn), .val (.ref a), .val (.int c), .val (.ref r)] [(.int (1 : Int32))]
    refine go_ifN C (pc' := 184) at_181 rfl rfl ?_
    refine go_aload C (pc' := 186) at_184 rfl rfl rfl ?_
    refine go_aloadN C (pc' := 187) at_186 rfl rfl rfl ?_
    refine go_iconst C (pc' := 188) (z := 2) at_187 rfl rfl ?_
    refine go_callS C (pc' := 191) (k' := 2) (n' := 12) (argsL := [(.ref r), (.ref a), (.int (2 : Int32))]) (rest := []) (own_w hw (i := 11) rfl) (own_w hw (i := 12) rfl) (own_w hw (i := 4) rfl) (own_w hw (i := 13) rfl) (rmO Z r a 2 2 (posI bs 0) bs hr n0 rfl (okHall bs (by omega) 2) B A2) at_188 rfl rfl (lenOf pd2 rfl) (by decide) (by decide) 0 rfl (by decide) rfl rfl (by decide) (by decide) rfl ?_
    rintro _ _ ⟨rfl, rfl⟩
    show Go E room_1 n0 Q1 hr 2 12 191 #[.val (.int x), .val (.int y), .val (.int nn), .val (.ref a), .val (.int c), .val (.ref r)] [(.int (1 : Int32))]
    refine go_ifN C (pc' := 194) at_191 rfl rfl ?_
    refine go_aload C (pc' := 196) at_194 rfl rfl rfl ?_
    refine go_aloadN C (pc' := 197) at_196 rfl rfl rfl ?_
    refine go_iconst C (pc' := 198) (z := 3) at_197 rfl rfl ?_
    refine go_callS C (pc' := 201) (k' := 2) (n' := 12) (argsL := [(.ref r), (.ref a), (.int (3 : Int32))]) (rest := []) (own_w hw (i := 11) rfl) (own_w hw (i := 12) rfl) (own_w hw (i := 4) rfl) (own_w hw (i := 13) rfl) (rmO Z r a 3 3 (posI bs 0) bs hr n0 rfl (okHall bs (by omega) 3) B A2) at_198 rfl rfl (lenOf pd2 rfl) (by decide) (by decide) 0 rfl (by decide) rfl rfl (by decide) (by decide) rfl ?_
    rintro _ _ ⟨rfl, rfl⟩
    show Go E room_1 n0 Q1 hr 2 12 201 #[.val (.int x), .val (.int y), .val (.int nn), .val (.ref a), .val (.int c), .val (.ref r)] [(.int (1 : Int32))]
    refine go_ifN C (pc' := 204) at_201 rfl rfl ?_
    refine go_aload C (pc' := 206) at_204 rfl rfl rfl ?_
    refine go_aloadN C (pc' := 207) at_206 rfl rfl rfl ?_
    refine go_iconst C (pc' := 208) (z := 4) at_207 rfl rfl ?_
    refine go_callS C (pc' := 211) (k' := 2) (n' := 12) (argsL := [(.ref r), (.ref a), (.int (4 : Int32))]) (rest := []) (own_w hw (i := 11) rfl) (own_w hw (i := 12) rfl) (own_w hw (i := 4) rfl) (own_w hw (i := 13) rfl) (rmO Z r a 4 4 (posI bs 0) bs hr n0 rfl (okHall bs (by omega) 4) B A2) at_208 rfl rfl (lenOf pd2 rfl) (by decide) (by decide) 0 rfl (by decide) rfl rfl (by decide) (by decide) rfl ?_
    rintro _ _ ⟨rfl, rfl⟩
    show Go E room_1 n0 Q1 hr 2 12 211 #[.val (.int x), .val (.int y), .val (.int nn), .val (.ref a), .val (.int c), .val (.ref r)] [(.int (1 : Int32))]
    refine go_ifN C (pc' := 214) at_211 rfl rfl ?_
    refine go_aload C (pc' := 216) at_214 rfl rfl rfl ?_
    refine go_aloadN C (pc' := 217) at_216 rfl rfl rfl ?_
    refine go_iconst C (pc' := 218) (z := 5) at_217 rfl rfl ?_
    refine go_callS C (pc' := 221) (k' := 2) (n' := 12) (argsL := [(.ref r), (.ref a), (.int (5 : Int32))]) (rest := []) (own_w hw (i := 11) rfl) (own_w hw (i := 12) rfl) (own_w hw (i := 4) rfl) (own_w hw (i := 13) rfl) (rmO Z r a 5 5 (posI bs 0) bs hr n0 rfl (okHall bs (by omega) 5) B A2) at_218 rfl rfl (lenOf pd2 rfl) (by decide) (by decide) 0 rfl (by decide) rfl rfl (by decide) (by decide) rfl ?_
    rintro _ _ ⟨rfl, rfl⟩
    show Go E room_1 n0 Q1 hr 2 12 221 #[.val (.int x), .val (.int y), .val (.int nn), .val (.ref a), .val (.int c), .val (.ref r)] [(.int (1 : Int32))]
    refine go_ifN C (pc' := 224) at_221 rfl rfl ?_
    refine go_iconst C (pc' := 225) (z := 1) at_224 rfl rfl ?_
    refine go_goto C (pc' := 229) at_225 (by decide) (by decide) ?_
    refine go_retZ C at_229 (by decide) (by decide) (by decide) ?_
    exact rfl
  have J124 : ∀ (h : Heap) (bs : List Bool) (c : Int32), Ai Z h a .boolean (bl bs) → bs.length = N → c.toInt = (cnt bs : Int) → n0 ≤ h.size → (∀ q, 5 ≤ q → q < bs.length → bs[q]? = some false) → Go E room_1 n0 Q1 h 1 6 124 #[.val (.int x), .val (.int y), .val (.int nn), .val (.ref a), .val (.int c), .unset] [] := by
    intro h bs c A hb hc hz hf
    refine go_iloadN C (pc' := 125) at_124 rfl rfl ?_
    refine go_iconst C (pc' := 126) (z := 5) at_125 rfl rfl ?_
    refine go_ic C (pcY := 146) (pcN := 129) at_126 (by decide) (by decide) rfl ?_ ?_
    · intro q1
      have q2 :  nn.toInt ≤ 5 := q1
      exact J146 h bs c A hb hc hz
    · intro q1
      have q2 : ¬ nn.toInt ≤ 5 := q1
      refine go_aloadN C (pc' := 130) at_129 rfl rfl rfl ?_
      refine go_iconst C (pc' := 131) (z := 5) at_130 rfl rfl ?_
      refine go_iloadN C (pc' := 132) at_131 rfl rfl ?_
      refine go_iconst C (pc' := 133) (z := 5) at_132 rfl rfl ?_
      refine go_callS C (pc' := 136) (k' := 1) (n' := 6) (argsL := [(.int x), (.int (5 : Int32))]) (rest := [(.int (5 : Int32)), (.ref a)]) (own_w hw (i := 2) rfl) (own_w hw (i := 3) rfl) (own_w hw (i := 4) rfl) (own_w hw (i := 5) rfl) (rmB Z x (5 : Int32) h n0) at_133 rfl rfl (lenOf pd0 rfl) (by decide) (by decide) 2 rfl (by decide) rfl rfl (by decide) (by decide) rfl ?_
      rintro _ _ ⟨rfl, rfl⟩
      obtain ⟨b, eb⟩ : ∃ b, tb x (5 : Int32) = b := ⟨_, rfl⟩
      rw [eb]
      show Go E room_1 n0 Q1 h 1 6 136 #[.val (.int x), .val (.int y), .val (.int nn), .val (.ref a), .val (.int c), .unset] [(.int (b2i b)), (.int (5 : Int32)), (.ref a)]
      refine go_bastoreZ C (pc' := 137) (i := 5) (xs' := bl (bs.set 5 b)) A rfl (by rw [bl_len]; omega) (bl_set bs 5 b) (b2i01 b) ga at_136 rfl ?_
      intro h2 W2 A2
      refine go_aloadN C (pc' := 138) at_137 rfl rfl rfl ?_
      refine go_iconst C (pc' := 139) (z := 5) at_138 rfl rfl ?_
      refine go_baloadZ C (pc' := 140) (i := 5) A2 rfl (bl_at (show (bs.set 5 b)[5]? = some b from List.getElem?_set_self (by omega))) at_139 rfl ?_
      have hcs := cnt_set bs 5 b (hf 5 (Nat.le_refl _) (by omega))
      have hzs := W2.size
      cases b with
      | false =>
        refine go_ifY C (pc' := 146) at_140 rfl (by decide) (by decide) ?_
        exact J146 h2 (bs.set 5 false) c A2 (by rw [List.length_set]; exact hb) (by rw [hcs]; simpa using hc) (by omega) 
      | true =>
        refine go_ifN C (pc' := 143) at_140 rfl rfl ?_
        refine go_iinc C (pc' := 146) (z := 1) (Ls' := #[.val (.int x), .val (.int y), .val (.int nn), .val (.ref a), .val (.int (c + (1 : Int32))), .unset]) at_143 rfl rfl rfl rfl ?_
        exact J146 h2 (bs.set 5 true) (c + (1 : Int32)) A2 (by rw [List.length_set]; exact hb) (by rw [hcs]; exact inc1 c _ hc (by have := cnt_le bs; omega)) (by omega) 
  have J102 : ∀ (h : Heap) (bs : List Bool) (c : Int32), Ai Z h a .boolean (bl bs) → bs.length = N → c.toInt = (cnt bs : Int) → n0 ≤ h.size → (∀ q, 4 ≤ q → q < bs.length → bs[q]? = some false) → Go E room_1 n0 Q1 h 1 6 102 #[.val (.int x), .val (.int y), .val (.int nn), .val (.ref a), .val (.int c), .unset] [] := by
    intro h bs c A hb hc hz hf
    refine go_iloadN C (pc' := 103) at_102 rfl rfl ?_
    refine go_iconst C (pc' := 104) (z := 4) at_103 rfl rfl ?_
    refine go_ic C (pcY := 124) (pcN := 107) at_104 (by decide) (by decide) rfl ?_ ?_
    · intro q1
      have q2 :  nn.toInt ≤ 4 := q1
      exact J124 h bs c A hb hc hz (fun q hq hq2 => hf q (by omega) hq2)
    · intro q1
      have q2 : ¬ nn.toInt ≤ 4 := q1
      refine go_aloadN C (pc' := 108) at_107 rfl rfl rfl ?_
      refine go_iconst C (pc' := 109) (z := 4) at_108 rfl rfl ?_
      refine go_iloadN C (pc' := 110) at_109 rfl rfl ?_
      refine go_iconst C (pc' := 111) (z := 4) at_110 rfl rfl ?_
      refine go_callS C (pc' := 114) (k' := 1) (n' := 6) (argsL := [(.int x), (.int (4 : Int32))]) (rest := [(.int (4 : Int32)), (.ref a)]) (own_w hw (i := 2) rfl) (own_w hw (i := 3) rfl) (own_w hw (i := 4) rfl) (own_w hw (i := 5) rfl) (rmB Z x (4 : Int32) h n0) at_111 rfl rfl (lenOf pd0 rfl) (by decide) (by decide) 2 rfl (by decide) rfl rfl (by decide) (by decide) rfl ?_
      rintro _ _ ⟨rfl, rfl⟩
      obtain ⟨b, eb⟩ : ∃ b, tb x (4 : Int32) = b := ⟨_, rfl⟩
      rw [eb]
      show Go E room_1 n0 Q1 h 1 6 114 #[.val (.int x), .val (.int y), .val (.int nn), .val (.ref a), .val (.int c), .unset] [(.int (b2i b)), (.int (4 : Int32)), (.ref a)]
      refine go_bastoreZ C (pc' := 115) (i := 4) (xs' := bl (bs.set 4 b)) A rfl (by rw [bl_len]; omega) (bl_set bs 4 b) (b2i01 b) ga at_114 rfl ?_
      intro h2 W2 A2
      refine go_aloadN C (pc' := 116) at_115 rfl rfl rfl ?_
      refine go_iconst C (pc' := 117) (z := 4) at_116 rfl rfl ?_
      refine go_baloadZ C (pc' := 118) (i := 4) A2 rfl (bl_at (show (bs.set 4 b)[4]? = some b from List.getElem?_set_self (by omega))) at_117 rfl ?_
      have hcs := cnt_set bs 4 b (hf 4 (Nat.le_refl _) (by omega))
      have hzs := W2.size
      cases b with
      | false =>
        refine go_ifY C (pc' := 124) at_118 rfl (by decide) (by decide) ?_
        exact J124 h2 (bs.set 4 false) c A2 (by rw [List.length_set]; exact hb) (by rw [hcs]; simpa using hc) (by omega) (fun q hq hq2 => by rw [List.getElem?_set_ne (by omega)]; exact hf q (by omega) (by simpa using hq2))
      | true =>
        refine go_ifN C (pc' := 121) at_118 rfl rfl ?_
        refine go_iinc C (pc' := 124) (z := 1) (Ls' := #[.val (.int x), .val (.int y), .val (.int nn), .val (.ref a), .val (.int (c + (1 : Int32))), .unset]) at_121 rfl rfl rfl rfl ?_
        exact J124 h2 (bs.set 4 true) (c + (1 : Int32)) A2 (by rw [List.length_set]; exact hb) (by rw [hcs]; exact inc1 c _ hc (by have := cnt_le bs; omega)) (by omega) (fun q hq hq2 => by rw [List.getElem?_set_ne (by omega)]; exact hf q (by omega) (by simpa using hq2))
  have J80 : ∀ (h : Heap) (bs : List Bool) (c : Int32), Ai Z h a .boolean (bl bs) → bs.length = N → c.toInt = (cnt bs : Int) → n0 ≤ h.size → (∀ q, 3 ≤ q → q < bs.length → bs[q]? = some false) → Go E room_1 n0 Q1 h 1 6 80 #[.val (.int x), .val (.int y), .val (.int nn), .val (.ref a), .val (.int c), .unset] [] := by
    intro h bs c A hb hc hz hf
    refine go_iloadN C (pc' := 81) at_80 rfl rfl ?_
    refine go_iconst C (pc' := 82) (z := 3) at_81 rfl rfl ?_
    refine go_ic C (pcY := 102) (pcN := 85) at_82 (by decide) (by decide) rfl ?_ ?_
    · intro q1
      have q2 :  nn.toInt ≤ 3 := q1
      exact J102 h bs c A hb hc hz (fun q hq hq2 => hf q (by omega) hq2)
    · intro q1
      have q2 : ¬ nn.toInt ≤ 3 := q1
      refine go_aloadN C (pc' := 86) at_85 rfl rfl rfl ?_
      refine go_iconst C (pc' := 87) (z := 3) at_86 rfl rfl ?_
      refine go_iloadN C (pc' := 88) at_87 rfl rfl ?_
      refine go_iconst C (pc' := 89) (z := 3) at_88 rfl rfl ?_
      refine go_callS C (pc' := 92) (k' := 1) (n' := 6) (argsL := [(.int x), (.int (3 : Int32))]) (rest := [(.int (3 : Int32)), (.ref a)]) (own_w hw (i := 2) rfl) (own_w hw (i := 3) rfl) (own_w hw (i := 4) rfl) (own_w hw (i := 5) rfl) (rmB Z x (3 : Int32) h n0) at_89 rfl rfl (lenOf pd0 rfl) (by decide) (by decide) 2 rfl (by decide) rfl rfl (by decide) (by decide) rfl ?_
      rintro _ _ ⟨rfl, rfl⟩
      obtain ⟨b, eb⟩ : ∃ b, tb x (3 : Int32) = b := ⟨_, rfl⟩
      rw [eb]
      show Go E room_1 n0 Q1 h 1 6 92 #[.val (.int x), .val (.int y), .val (.int nn), .val (.ref a), .val (.int c), .unset] [(.int (b2i b)), (.int (3 : Int32)), (.ref a)]
      refine go_bastoreZ C (pc' := 93) (i := 3) (xs' := bl (bs.set 3 b)) A rfl (by rw [bl_len]; omega) (bl_set bs 3 b) (b2i01 b) ga at_92 rfl ?_
      intro h2 W2 A2
      refine go_aloadN C (pc' := 94) at_93 rfl rfl rfl ?_
      refine go_iconst C (pc' := 95) (z := 3) at_94 rfl rfl ?_
      refine go_baloadZ C (pc' := 96) (i := 3) A2 rfl (bl_at (show (bs.set 3 b)[3]? = some b from List.getElem?_set_self (by omega))) at_95 rfl ?_
      have hcs := cnt_set bs 3 b (hf 3 (Nat.le_refl _) (by omega))
      have hzs := W2.size
      cases b with
      | false =>
        refine go_ifY C (pc' := 102) at_96 rfl (by decide) (by decide) ?_
        exact J102 h2 (bs.set 3 false) c A2 (by rw [List.length_set]; exact hb) (by rw [hcs]; simpa using hc) (by omega) (fun q hq hq2 => by rw [List.getElem?_set_ne (by omega)]; exact hf q (by omega) (by simpa using hq2))
      | true =>
        refine go_ifN C (pc' := 99) at_96 rfl rfl ?_
        refine go_iinc C (pc' := 102) (z := 1) (Ls' := #[.val (.int x), .val (.int y), .val (.int nn), .val (.ref a), .val (.int (c + (1 : Int32))), .unset]) at_99 rfl rfl rfl rfl ?_
        exact J102 h2 (bs.set 3 true) (c + (1 : Int32)) A2 (by rw [List.length_set]; exact hb) (by rw [hcs]; exact inc1 c _ hc (by have := cnt_le bs; omega)) (by omega) (fun q hq hq2 => by rw [List.getElem?_set_ne (by omega)]; exact hf q (by omega) (by simpa using hq2))
  have J58 : ∀ (h : Heap) (bs : List Bool) (c : Int32), Ai Z h a .boolean (bl bs) → bs.length = N → c.toInt = (cnt bs : Int) → n0 ≤ h.size → (∀ q, 2 ≤ q → q < bs.length → bs[q]? = some false) → Go E room_1 n0 Q1 h 1 6 58 #[.val (.int x), .val (.int y), .val (.int nn), .val (.ref a), .val (.int c), .unset] [] := by
    intro h bs c A hb hc hz hf
    refine go_iloadN C (pc' := 59) at_58 rfl rfl ?_
    refine go_iconst C (pc' := 60) (z := 2) at_59 rfl rfl ?_
    refine go_ic C (pcY := 80) (pcN := 63) at_60 (by decide) (by decide) rfl ?_ ?_
    · intro q1
      have q2 :  nn.toInt ≤ 2 := q1
      exact J80 h bs c A hb hc hz (fun q hq hq2 => hf q (by omega) hq2)
    · intro q1
      have q2 : ¬ nn.toInt ≤ 2 := q1
      refine go_aloadN C (pc' := 64) at_63 rfl rfl rfl ?_
      refine go_iconst C (pc' := 65) (z := 2) at_64 rfl rfl ?_
      refine go_iloadN C (pc' := 66) at_65 rfl rfl ?_
      refine go_iconst C (pc' := 67) (z := 2) at_66 rfl rfl ?_
      refine go_callS C (pc' := 70) (k' := 1) (n' := 6) (argsL := [(.int x), (.int (2 : Int32))]) (rest := [(.int (2 : Int32)), (.ref a)]) (own_w hw (i := 2) rfl) (own_w hw (i := 3) rfl) (own_w hw (i := 4) rfl) (own_w hw (i := 5) rfl) (rmB Z x (2 : Int32) h n0) at_67 rfl rfl (lenOf pd0 rfl) (by decide) (by decide) 2 rfl (by decide) rfl rfl (by decide) (by decide) rfl ?_
      rintro _ _ ⟨rfl, rfl⟩
      obtain ⟨b, eb⟩ : ∃ b, tb x (2 : Int32) = b := ⟨_, rfl⟩
      rw [eb]
      show Go E room_1 n0 Q1 h 1 6 70 #[.val (.int x), .val (.int y), .val (.int nn), .val (.ref a), .val (.int c), .unset] [(.int (b2i b)), (.int (2 : Int32)), (.ref a)]
      refine go_bastoreZ C (pc' := 71) (i := 2) (xs' := bl (bs.set 2 b)) A rfl (by rw [bl_len]; omega) (bl_set bs 2 b) (b2i01 b) ga at_70 rfl ?_
      intro h2 W2 A2
      refine go_aloadN C (pc' := 72) at_71 rfl rfl rfl ?_
      refine go_iconst C (pc' := 73) (z := 2) at_72 rfl rfl ?_
      refine go_baloadZ C (pc' := 74) (i := 2) A2 rfl (bl_at (show (bs.set 2 b)[2]? = some b from List.getElem?_set_self (by omega))) at_73 rfl ?_
      have hcs := cnt_set bs 2 b (hf 2 (Nat.le_refl _) (by omega))
      have hzs := W2.size
      cases b with
      | false =>
        refine go_ifY C (pc' := 80) at_74 rfl (by decide) (by decide) ?_
        exact J80 h2 (bs.set 2 false) c A2 (by rw [List.length_set]; exact hb) (by rw [hcs]; simpa using hc) (by omega) (fun q hq hq2 => by rw [List.getElem?_set_ne (by omega)]; exact hf q (by omega) (by simpa using hq2))
      | true =>
        refine go_ifN C (pc' := 77) at_74 rfl rfl ?_
        refine go_iinc C (pc' := 80) (z := 1) (Ls' := #[.val (.int x), .val (.int y), .val (.int nn), .val (.ref a), .val (.int (c + (1 : Int32))), .unset]) at_77 rfl rfl rfl rfl ?_
        exact J80 h2 (bs.set 2 true) (c + (1 : Int32)) A2 (by rw [List.length_set]; exact hb) (by rw [hcs]; exact inc1 c _ hc (by have := cnt_le bs; omega)) (by omega) (fun q hq hq2 => by rw [List.getElem?_set_ne (by omega)]; exact hf q (by omega) (by simpa using hq2))
  have J36 : ∀ (h : Heap) (bs : List Bool) (c : Int32), Ai Z h a .boolean (bl bs) → bs.length = N → c.toInt = (cnt bs : Int) → n0 ≤ h.size → (∀ q, 1 ≤ q → q < bs.length → bs[q]? = some false) → Go E room_1 n0 Q1 h 1 6 36 #[.val (.int x), .val (.int y), .val (.int nn), .val (.ref a), .val (.int c), .unset] [] := by
    intro h bs c A hb hc hz hf
    refine go_iloadN C (pc' := 37) at_36 rfl rfl ?_
    refine go_iconst C (pc' := 38) (z := 1) at_37 rfl rfl ?_
    refine go_ic C (pcY := 58) (pcN := 41) at_38 (by decide) (by decide) rfl ?_ ?_
    · intro q1
      have q2 :  nn.toInt ≤ 1 := q1
      exact J58 h bs c A hb hc hz (fun q hq hq2 => hf q (by omega) hq2)
    · intro q1
      have q2 : ¬ nn.toInt ≤ 1 := q1
      refine go_aloadN C (pc' := 42) at_41 rfl rfl rfl ?_
      refine go_iconst C (pc' := 43) (z := 1) at_42 rfl rfl ?_
      refine go_iloadN C (pc' := 44) at_43 rfl rfl ?_
      refine go_iconst C (pc' := 45) (z := 1) at_44 rfl rfl ?_
      refine go_callS C (pc' := 48) (k' := 1) (n' := 6) (argsL := [(.int x), (.int (1 : Int32))]) (rest := [(.int (1 : Int32)), (.ref a)]) (own_w hw (i := 2) rfl) (own_w hw (i := 3) rfl) (own_w hw (i := 4) rfl) (own_w hw (i := 5) rfl) (rmB Z x (1 : Int32) h n0) at_45 rfl rfl (lenOf pd0 rfl) (by decide) (by decide) 2 rfl (by decide) rfl rfl (by decide) (by decide) rfl ?_
      rintro _ _ ⟨rfl, rfl⟩
      obtain ⟨b, eb⟩ : ∃ b, tb x (1 : Int32) = b := ⟨_, rfl⟩
      rw [eb]
      show Go E room_1 n0 Q1 h 1 6 48 #[.val (.int x), .val (.int y), .val (.int nn), .val (.ref a), .val (.int c), .unset] [(.int (b2i b)), (.int (1 : Int32)), (.ref a)]
      refine go_bastoreZ C (pc' := 49) (i := 1) (xs' := bl (bs.set 1 b)) A rfl (by rw [bl_len]; omega) (bl_set bs 1 b) (b2i01 b) ga at_48 rfl ?_
      intro h2 W2 A2
      refine go_aloadN C (pc' := 50) at_49 rfl rfl rfl ?_
      refine go_iconst C (pc' := 51) (z := 1) at_50 rfl rfl ?_
      refine go_baloadZ C (pc' := 52) (i := 1) A2 rfl (bl_at (show (bs.set 1 b)[1]? = some b from List.getElem?_set_self (by omega))) at_51 rfl ?_
      have hcs := cnt_set bs 1 b (hf 1 (Nat.le_refl _) (by omega))
      have hzs := W2.size
      cases b with
      | false =>
        refine go_ifY C (pc' := 58) at_52 rfl (by decide) (by decide) ?_
        exact J58 h2 (bs.set 1 false) c A2 (by rw [List.length_set]; exact hb) (by rw [hcs]; simpa using hc) (by omega) (fun q hq hq2 => by rw [List.getElem?_set_ne (by omega)]; exact hf q (by omega) (by simpa using hq2))
      | true =>
        refine go_ifN C (pc' := 55) at_52 rfl rfl ?_
        refine go_iinc C (pc' := 58) (z := 1) (Ls' := #[.val (.int x), .val (.int y), .val (.int nn), .val (.ref a), .val (.int (c + (1 : Int32))), .unset]) at_55 rfl rfl rfl rfl ?_
        exact J58 h2 (bs.set 1 true) (c + (1 : Int32)) A2 (by rw [List.length_set]; exact hb) (by rw [hcs]; exact inc1 c _ hc (by have := cnt_le bs; omega)) (by omega) (fun q hq hq2 => by rw [List.getElem?_set_ne (by omega)]; exact hf q (by omega) (by simpa using hq2))
  have J15 : ∀ (h : Heap) (bs : List Bool) (c : Int32), Ai Z h a .boolean (bl bs) → bs.length = N → c.toInt = (cnt bs : Int) → n0 ≤ h.size → (∀ q, 0 ≤ q → q < bs.length → bs[q]? = some false) → Go E room_1 n0 Q1 h 1 6 15 #[.val (.int x), .val (.int y), .val (.int nn), .val (.ref a), .val (.int c), .unset] [] := by
    intro h bs c A hb hc hz hf
    refine go_iloadN C (pc' := 16) at_15 rfl rfl ?_
    refine go_if C (pcY := 36) (pcN := 19) at_16 (by decide) (by decide) rfl ?_ ?_
    · intro q1
      have q2 :  nn.toInt ≤ 0 := q1
      exact J36 h bs c A hb hc hz (fun q hq hq2 => hf q (by omega) hq2)
    · intro q1
      have q2 : ¬ nn.toInt ≤ 0 := q1
      refine go_aloadN C (pc' := 20) at_19 rfl rfl rfl ?_
      refine go_iconst C (pc' := 21) (z := 0) at_20 rfl rfl ?_
      refine go_iloadN C (pc' := 22) at_21 rfl rfl ?_
      refine go_iconst C (pc' := 23) (z := 0) at_22 rfl rfl ?_
      refine go_callS C (pc' := 26) (k' := 1) (n' := 6) (argsL := [(.int x), (.int (0 : Int32))]) (rest := [(.int (0 : Int32)), (.ref a)]) (own_w hw (i := 2) rfl) (own_w hw (i := 3) rfl) (own_w hw (i := 4) rfl) (own_w hw (i := 5) rfl) (rmB Z x (0 : Int32) h n0) at_23 rfl rfl (lenOf pd0 rfl) (by decide) (by decide) 2 rfl (by decide) rfl rfl (by decide) (by decide) rfl ?_
      rintro _ _ ⟨rfl, rfl⟩
      obtain ⟨b, eb⟩ : ∃ b, tb x (0 : Int32) = b := ⟨_, rfl⟩
      rw [eb]
      show Go E room_1 n0 Q1 h 1 6 26 #[.val (.int x), .val (.int y), .val (.int nn), .val (.ref a), .val (.int c), .unset] [(.int (b2i b)), (.int (0 : Int32)), (.ref a)]
      refine go_bastoreZ C (pc' := 27) (i := 0) (xs' := bl (bs.set 0 b)) A rfl (by rw [bl_len]; omega) (bl_set bs 0 b) (b2i01 b) ga at_26 rfl ?_
      intro h2 W2 A2
      refine go_aloadN C (pc' := 28) at_27 rfl rfl rfl ?_
      refine go_iconst C (pc' := 29) (z := 0) at_28 rfl rfl ?_
      refine go_baloadZ C (pc' := 30) (i := 0) A2 rfl (bl_at (show (bs.set 0 b)[0]? = some b from List.getElem?_set_self (by omega))) at_29 rfl ?_
      have hcs := cnt_set bs 0 b (hf 0 (Nat.le_refl _) (by omega))
      have hzs := W2.size
      cases b with
      | false =>
        refine go_ifY C (pc' := 36) at_30 rfl (by decide) (by decide) ?_
        exact J36 h2 (bs.set 0 false) c A2 (by rw [List.length_set]; exact hb) (by rw [hcs]; simpa using hc) (by omega) (fun q hq hq2 => by rw [List.getElem?_set_ne (by omega)]; exact hf q (by omega) (by simpa using hq2))
      | true =>
        refine go_ifN C (pc' := 33) at_30 rfl rfl ?_
        refine go_iinc C (pc' := 36) (z := 1) (Ls' := #[.val (.int x), .val (.int y), .val (.int nn), .val (.ref a), .val (.int (c + (1 : Int32))), .unset]) at_33 rfl rfl rfl rfl ?_
        exact J36 h2 (bs.set 0 true) (c + (1 : Int32)) A2 (by rw [List.length_set]; exact hb) (by rw [hcs]; exact inc1 c _ hc (by have := cnt_le bs; omega)) (by omega) (fun q hq hq2 => by rw [List.getElem?_set_ne (by omega)]; exact hf q (by omega) (by simpa using hq2))
  exact J15 h0 (List.replicate N false) 0 A0 (List.length_replicate) (by rw [cnt_rep]; rfl) Z0 (fun q _ hq => by rw [List.length_replicate] at hq; rw [List.getElem?_replicate, if_pos hq])
set_option maxRecDepth 65536 in
set_option maxHeartbeats 4000000 in
theorem rm0 (Z : State) (a0 : Array Value) (hw : ∀ d ∈ tables_1, d.before a0 Z = true) (x y : Int32) (h0 : Heap) (n0 : Nat) (Z0 : n0 ≤ h0.size) : Met Z Jvm.Pilot.@@N@@.x code maxLocals ret room_1 #[.int x, .int y] h0 n0 Q1 := by
  refine met_of (Ls := #[.val (.int x), .val (.int y), .unset, .unset, .unset, .unset]) (plainFor_of_name pn0) (fun m => by first | (simp [entryFrame, mkF, argsToLocals, Value.category, maxLocals]; done) | rfl) ?_
  intro E (C : Cx E Z "com/example/joinweave/joinweave/graph/SteinerGraphNumbersPinLaw" "law" code 6 (some .boolean))
  refine go_iloadN C (pc' := 1) at_0 rfl rfl ?_
  refine go_ldc C (pc' := 3) (z := 2147483647) at_1 (own_w hw (i := 0) rfl) rfl ?_
  refine go_iand C (pc' := 4) at_3 rfl ?_
  refine go_bipush C (pc' := 6) (z := 7) at_4 rfl rfl ?_
  refine go_irem C (pc' := 7) at_6 (by decide) rfl ?_
  refine go_istoreN C (pc' := 8) (Ls' := #[.val (.int x), .val (.int y), .val (.int ((y &&& (2147483647 : Int32)) % (7 : Int32))), .unset, .unset, .unset]) at_7 rfl rfl ?_
  refine go_iloadN C (pc' := 9) at_8 rfl rfl ?_
  obtain ⟨N, hN, hN7⟩ := own_n y
  generalize ((y &&& (2147483647 : Int32)) % (7 : Int32)) = nn at hN ⊢
  refine go_newP C (aty := .boolean) (pc' := 11) (k' := 1) (n' := 6) (cap := 6) (own_w hw (i := 1) rfl) at_9 (by rw [Int32.lt_iff_toInt_lt]; show ¬ nn.toInt < 0; omega) (by show nn.toInt.toNat ≤ 6; omega) (by decide) rfl rfl (by decide) (by decide) rfl ?_
  intro h1 cA x1 A1
  obtain ⟨a, ea⟩ : ∃ q, q = h0.size := ⟨_, rfl⟩
  rw [← ea] at A1 ⊢
  have zn := x1.1
  have B1 : Ai Z h1 a .boolean (List.replicate nn.toNatClampNeg 0) := Ai.new A1 (by rw [Int32.lt_iff_toInt_lt]; show ¬ nn.toInt < 0; omega) rfl
  rw [show nn.toNatClampNeg = N from by show nn.toInt.toNat = _; omega, show List.replicate N (0 : Int32) = bl (List.replicate N false) from by unfold bl; rw [List.map_replicate]; rfl] at B1
  refine go_astoreN C (pc' := 12) (Ls' := #[.val (.int x), .val (.int y), .val (.int nn), .val (.ref a), .unset, .unset]) at_11 rfl rfl rfl ?_
  refine go_iconst C (pc' := 13) (z := 0) at_12 rfl rfl ?_
  refine go_istore C (pc' := 15) (Ls' := #[.val (.int x), .val (.int y), .val (.int nn), .val (.ref a), .val (.int (0 : Int32)), .unset]) at_13 rfl rfl ?_
  exact mid Z a0 hw E C x y nn N hN hN7 a h1 n0 (by omega) (by omega) B1
set_option maxRecDepth 65536 in
set_option maxHeartbeats 4000000 in
theorem comes_1 {Post : Tables → Env → Array Value → State → Outcome → State → Prop} (hpost : ∀ tb e args s v u, (limb_1_1.after args s (.returned v) u = true ∧ limb_1_2.after args s (.returned v) u = true ∧ True) → FrameEnd s (.returned v) u (Jvm.fieldLocs frame_1_writes args s ++ Jvm.arrayLocs frame_1_arrays args s ++ Jvm.staticLocs frame_1_statics s) 16 128 → Post tb e args s (.returned v) u) :
    ArmFor flags0 classFile x code maxLocals ret World_1 tables_1 room_1 Calls_1 rest_1 Pre_1 Post := by
  intro l hfl _ _ p e ha hc hk s m args below hf hA hF happ hP
  obtain ⟨hcalls, hrest, hpre⟩ := hP
  obtain ⟨-, -, -, hnamed, -, -, -, hat⟩ := (Spec.applies_iff hf).mp happ
  obtain ⟨hg, hn⟩ := and_e (Cond.before_iff.mp (show (Jvm.Cond.and given_1 narrow_1).before args s = true from hpre))
  obtain ⟨hcnt, g0⟩ := and_e hg
  obtain ⟨f0, g1⟩ := and_e g0
  obtain ⟨w0, w1, rfl⟩ : ∃ w0 w1 : Value, args = #[w0, w1] := by
    have hs : args.size = 2 := by simpa [Cond.value, given_1] using hcnt
    obtain ⟨L⟩ := args
    match L, hs with
    | [w0, w1], _ => exact ⟨w0, w1, rfl⟩
  have hw := fun d (hd : d ∈ tables_1) => atoms_spec (ws := Jvm.Cond.code x code maxLocals ret :: tables_1) hat d (List.mem_cons_of_mem _ hd)
  obtain ⟨i0, e0⟩ := is_v f0
  obtain rfl : w0 = (.int i0) := Option.some.inj e0
  obtain ⟨i1, e1⟩ := is_v g1
  obtain rfl : w1 = (.int i1) := Option.some.inj e1
  obtain ⟨n, o, h1, h2, h3, _, L, rfl, ⟨rfl, N⟩, hq⟩ := rm0 s _ hw i0 i1 s.heap s.heap.size (Nat.le_refl _) l tables_1 p e ha hc hk s m _ below hf ((Spec.applies_iff_loose hf).mp happ).1 ⟨rfl, State.Warmed39.refl s, rfl⟩ trivial
  refine ⟨n, _, h1, h2, h3, hpost _ _ _ _ _ _ ⟨Cond.after_iff.mpr rfl, Cond.after_iff.mpr (eq_i res_at (Term.int_eval (1)) rfl), trivial⟩ ⟨hq.1, hq.2.1, (hq.2.2.sift fun y hy => Or.inr (N y hy)).mono (by decide) (by decide)⟩⟩
theorem main_1_1 : Claimed_1_1 := comes_1 fun _ _ _ _ _ _ h hF => ⟨h.1, hF⟩
theorem main_1_2 : Claimed_1_2 := comes_1 fun _ _ _ _ _ _ h hF => ⟨h.2.1, hF⟩
end Jvm.Pilot.@@N@@
namespace Jvm.Pilot.@@N@@
open Jvm Jvm.ClassFile Sem Op Lib Jvm.Free Jvm.Stand Jvm.Pilot.@@N@@.Jvm.D
/-! MADE BY PROGRAM (witnessworld.py) out of the Statement's table words and the real class files: 11 classes; the members and pool entries that the words name. The judged class is class 1, her method 3. -/
namespace start1
open Jvm.ClassFile
def u (s : String) : CpInfo := .utf8 (stringToUtf16 s)
/-- a pool by its gaps: so many unusable entries, then the entry; so many at the end -/
def gap : Nat → List CpInfo → List CpInfo
  | 0, r => r
  | n + 1, r => .unusable :: gap n r
def poolList (es : List (Nat × CpInfo)) (last : Nat) : List CpInfo := es.foldr (fun e r => gap e.1 (e.2 :: r)) (gap last [])
def pool (es : List (Nat × CpInfo)) (last : Nat) : Array CpInfo := ⟨poolList es last⟩
def fileOf (pool : Array CpInfo) (this : Nat) (attrs : Array Attribute := #[]) (ms : Array MethodInfo := #[]) (fl : Nat := 33) (sup : Nat := 0) (ifs : Array Nat := #[]) (fds : Array FieldInfo := #[]) : ClassFile where
  minorVersion := 0
  majorVersion := 65
  constantPool := pool
  accessFlags := fl
  thisClass := this
  superClass := sup
  interfaces := ifs
  fields := fds
  methods := ms
  attributes := attrs
def plain (name : String) (sup : Option ClassId) : Class where
  name := name
  kind := .ordinary
  loader := none
  accessFlags := 33
  super := sup
  interfaces := #[]
  cf := none
  fields := #[]
  methods := #[]
  instanceTypes := #[]
  staticTypes := #[]
  resolved := #[]
  callSites := []
  init := .initialized
  statics := none
  mirror := none

def pool0 : Array CpInfo := pool [(5, u "<init>"), (0, u "()V"), (1, .class_ 10), (1, u "java/lang/Object")] 113

def k0m0 : Method := { name := "<init>", desc := "()V", sig := { parameters := [], returnType := none }, accessFlags := 1, code := none }
/-- java/lang/Object -/
def k0 : Class := { plain "java/lang/Object" none with
  accessFlags := 33
  interfaces := #[]
  cf := some (fileOf pool0 8 #[] #[{ accessFlags := 1, nameIndex := 5, descriptorIndex := 6, attributes := #[] }] 33 0 #[] #[])
  fields := #[]
  methods := #[k0m0]
  instanceTypes := #[]
  staticTypes := #[]
  resolved := Array.replicate 124 none
  statics := none }

def pool1 : Array CpInfo := pool [(2, .class_ 4), (1, u "java/lang/Object"), (0, u "<init>"), (0, u "()V"), (0, .integer 2147483647), (0, .methodref 9 10), (0, .class_ 11), (0, .nameAndType 12 13), (0, u "com/example/joinweave/joinweave/graph/SteinerGraphNumbersPinLaw"), (0, u "bit"), (0, u "(II)Z"), (0, .methodref 15 16), (0, .class_ 17), (0, .nameAndType 18 19), (0, u "com/example/joinweave/joinweave/graph/SteinerGraph"), (0, u "numbers"), (0, u "([ZI)[I"), (0, .methodref 9 21), (0, .nameAndType 22 23), (0, u "ok"), (0, u "([I[ZI)Z"), (3, u "law")] 6

def k1m0 : Method := { name := "<init>", desc := "()V", sig := { parameters := [], returnType := none }, accessFlags := 1, code := none }
def k1c1 : Code := { maxStack := 2, maxLocals := 2, code := method_2_code, exceptionTable := #[], attributes := #[] }
def k1m1 : Method := { name := "bit", desc := "(II)Z", sig := { parameters := [.int, .int], returnType := some .boolean }, accessFlags := 10, code := some k1c1 }
def k1c2 : Code := { maxStack := 3, maxLocals := 4, code := method_3_code, exceptionTable := #[], attributes := #[] }
def k1m2 : Method := { name := "ok", desc := "([I[ZI)Z", sig := { parameters := [(.array .int), (.array .boolean), .int], returnType := some .boolean }, accessFlags := 10, code := some k1c2 }
def k1c3 : Code := { maxStack := 4, maxLocals := 6, code := code, exceptionTable := #[], attributes := #[] }
def k1m3 : Method := { name := "law", desc := "(II)Z", sig := { parameters := [.int, .int], returnType := some .boolean }, accessFlags := 9, code := some k1c3 }
/-- com/example/joinweave/joinweave/graph/SteinerGraphNumbersPinLaw -/
def k1 : Class := { plain "com/example/joinweave/joinweave/graph/SteinerGraphNumbersPinLaw" (some 0) with
  accessFlags := 49
  interfaces := #[]
  cf := some (fileOf pool1 9 #[] #[{ accessFlags := 1, nameIndex := 5, descriptorIndex := 6, attributes := #[] }, { accessFlags := 10, nameIndex := 12, descriptorIndex := 13, attributes := #[] }, { accessFlags := 10, nameIndex := 22, descriptorIndex := 23, attributes := #[] }, { accessFlags := 9, nameIndex := 27, descriptorIndex := 13, attributes := #[] }] 49 2 #[] #[])
  fields := #[]
  methods := #[k1m0, k1m1, k1m2, k1m3]
  instanceTypes := #[]
  staticTypes := #[]
  resolved := Array.replicate 34 none
  statics := none }

def pool2 : Array CpInfo := pool [(2, .class_ 4), (1, u "java/lang/Object"), (3, .class_ 10), (1, u "com/example/joinweave/joinweave/graph/SteinerGraph"), (0, u "paths"), (0, u "Lcom/example/joinweave/joinweave/graph/ShortestPaths;"), (2, u "terminals"), (0, u "[I"), (8, u "isTerminal"), (0, u "[Z"), (105, u "numbers"), (0, u "([ZI)[I")] 33

def k2c0 : Code := { maxStack := 3, maxLocals := 5, code := prog_156_method_7_code, exceptionTable := #[], attributes := #[] }
def k2m0 : Method := { name := "numbers", desc := "([ZI)[I", sig := { parameters := [(.array .boolean), .int], returnType := some (.array .int) }, accessFlags := 8, code := some k2c0 }
/-- com/example/joinweave/joinweave/graph/SteinerGraph -/
def k2 : Class := { plain "com/example/joinweave/joinweave/graph/SteinerGraph" (some 0) with
  accessFlags := 48
  interfaces := #[]
  cf := some (fileOf pool2 8 #[] #[{ accessFlags := 8, nameIndex := 132, descriptorIndex := 133, attributes := #[] }] 48 2 #[] #[{ accessFlags := 18, nameIndex := 11, descriptorIndex := 12, attributes := #[] }, { accessFlags := 18, nameIndex := 15, descriptorIndex := 16, attributes := #[] }, { accessFlags := 18, nameIndex := 25, descriptorIndex := 26, attributes := #[] }])
  fields := #[{ name := "paths", type := (.object "com/example/joinweave/joinweave/graph/ShortestPaths"), accessFlags := 18, slot := 0, constantValue := 0 }, { name := "terminals", type := (.array .int), accessFlags := 18, slot := 1, constantValue := 0 }, { name := "isTerminal", type := (.array .boolean), accessFlags := 18, slot := 2, constantValue := 0 }]
  methods := #[k2m0]
  instanceTypes := #[(.object "com/example/joinweave/joinweave/graph/ShortestPaths"), (.array .int), (.array .boolean)]
  staticTypes := #[]
  resolved := Array.replicate 167 none
  statics := none }

def pool3 : Array CpInfo := pool [(1, u "java/lang/Cloneable"), (0, .class_ 1), (0, u "java/lang/Object"), (0, .class_ 3)] 3

/-- java/lang/Cloneable -/
def k3 : Class := { plain "java/lang/Cloneable" (some 0) with
  accessFlags := 1537
  interfaces := #[]
  cf := some (fileOf pool3 2 #[] #[] 1537 4 #[] #[])
  fields := #[]
  methods := #[]
  instanceTypes := #[]
  staticTypes := #[]
  resolved := Array.replicate 8 none
  statics := none }

def pool4 : Array CpInfo := pool [(1, u "java/io/Serializable"), (0, .class_ 1), (0, u "java/lang/Object"), (0, .class_ 3)] 3

/-- java/io/Serializable -/
def k4 : Class := { plain "java/io/Serializable" (some 0) with
  accessFlags := 1537
  interfaces := #[]
  cf := some (fileOf pool4 2 #[] #[] 1537 4 #[] #[])
  fields := #[]
  methods := #[]
  instanceTypes := #[]
  staticTypes := #[]
  resolved := Array.replicate 8 none
  statics := none }

/-- the primitive boolean -/
def k5 : Class := { plain "boolean" none with kind := .primitive 'Z', accessFlags := 0x411 }
/-- [Z -/
def k6 : Class := { plain "[Z" (some 0) with kind := .array 5 .boolean, interfaces := #[3, 4], accessFlags := 1041 }

/-- the primitive byte -/
def k7 : Class := { plain "byte" none with kind := .primitive 'B', accessFlags := 0x411 }
/-- [B -/
def k8 : Class := { plain "[B" (some 0) with kind := .array 7 .byte, interfaces := #[3, 4], accessFlags := 1041 }

/-- the primitive int -/
def k9 : Class := { plain "int" none with kind := .primitive 'I', accessFlags := 0x411 }
/-- [I -/
def k10 : Class := { plain "[I" (some 0) with kind := .array 9 .int, interfaces := #[3, 4], accessFlags := 1041 }

def heap : Heap := #[]
def classes : Array Class := #[k0, k1, k2, k3, k4, k5, k6, k7, k8, k9, k10]
def interned : List (Array UInt16 × Addr) := []
def slotsUsed : Nat := 0
def theMethod : MethodId := ⟨1, 3⟩
def args0 : Array Value := #[.int 5, .int 3]
def aboutOver (below : List Frame) : State where
  vm := { classes := classes, interned := interned.toArray }
  heap := heap
  slotsUsed := slotsUsed
  threads := #[{ frames := .invoking theMethod args0 :: below }]
def below0 : List Frame := [.native { method := ⟨0, 0⟩, args := #[] }]
def about1 : State := aboutOver below0
def p0 : Program := .bare "" "" ""
def e0 : Env := launch0.env 0 0 0
theorem w_frames : about1.frames = Frame.invoking theMethod args0 :: below0 := rfl
set_option maxRecDepth 65536 in
theorem w_args : argsFit about1.vm theMethod args0 = true := by decide +kernel
set_option maxRecDepth 65536 in
theorem w_heap : heapFits about1 = true := by decide +kernel
set_option maxRecDepth 65536 in
theorem w_runnable : about1.curStatus? = some .runnable := by decide +kernel
set_option maxRecDepth 65536 in
theorem w_alone : about1.alone = true := by decide +kernel
set_option maxRecDepth 65536 in
theorem w_named : about1.methodNamed? x = some theMethod := by decide +kernel
set_option maxRecDepth 65536 in
theorem w_hears : about1.hears theMethod below0 = true := by decide +kernel
set_option maxRecDepth 65536 in
theorem w_ripe : about1.ripe theMethod args0 below0 = true := by decide +kernel
theorem w_running : about1.status = .running := rfl
set_option maxRecDepth 65536 in
theorem w_room : about1.hasRoom e0.platform room_1 = true :=
  launch0.hasRoom_least _ room_1 (by decide +kernel) (by decide +kernel) (by decide +kernel) (by decide +kernel) (by decide +kernel) (by decide +kernel)
theorem allAtoms_all (ts : List Jvm.Cond) (a : Array Jvm.Value) (st : Jvm.State) : (allAtoms ts).before a st = ts.all (fun c => c.before a st) := by
  induction ts with
  | nil => rfl
  | cons c t ih =>
    show (Jvm.Cond.and c (allAtoms t)).before a st = _
    rw [Jvm.Cond.before_and, ih, List.all_cons]
def words1 : List Jvm.Cond := Jvm.Cond.code x code maxLocals ret :: tables_1
/-- a 'code' word, met by the world's own term for the bytes: nothing is compared byte by byte -/
theorem code_word {y : MethodName} {bytes : ByteArray} {mx : Nat} {rt : Option FieldType} {a : Array Value} {s : State} {m : MethodId} {meth : Method} {c : Code} (h1 : s.methodNamed? y = some m) (h2 : s.vm.method? m = some meth) (h3 : meth.code = some c) (h4 : c.code = bytes)
    (h5 : (c.maxLocals == mx && c.exceptionTable.isEmpty && decide (c.maxStack ≤ mostOperands) && decide (meth.sig.returnType = rt) && !meth.locks && decide (parseMethodDescriptor y.desc = some meth.sig)) = true) : (Jvm.Cond.code y bytes mx rt).before a s = true := by
  simp only [Bool.and_eq_true, beq_iff_eq, Bool.not_eq_true', decide_eq_true_eq] at h5
  obtain ⟨⟨⟨⟨⟨g1, g2⟩, g3⟩, g4⟩, g5⟩, g6⟩ := h5
  simp [Cond.before, Cond.holds, Cond.value, h1, h2, h3, h4, g1, g2, g3, g4, g5, g6]
def isCode : Jvm.Cond → Bool
  | .code _ _ _ _ => true
  | _ => false
theorem all_split {L : List Jvm.Cond} {P : Jvm.Cond → Bool} (h1 : L.all (fun c => isCode c || P c) = true) (h2 : ∀ c ∈ L.filter isCode, P c = true) : L.all P = true := by
  refine List.all_eq_true.mpr fun c hc => ?_
  have h := List.all_eq_true.mp h1 c hc
  rcases Bool.eq_false_or_eq_true (isCode c) with hi | hi
  · exact h2 c (List.mem_filter.mpr ⟨hc, hi⟩)
  · simpa [hi] using h
set_option maxRecDepth 65536 in
theorem w_c0 : (Jvm.Cond.code x code maxLocals ret).before args0 about1 = true := code_word (m := ⟨1, 3⟩) (meth := k1m3) (c := k1c3) (by decide +kernel) rfl rfl rfl (by decide +kernel)
set_option maxRecDepth 65536 in
theorem w_c1 : (Jvm.Cond.code ({ cls := "com/example/joinweave/joinweave/graph/SteinerGraphNumbersPinLaw", name := "bit", desc := "(II)Z" } : Jvm.MethodName) method_2_code (2 : Nat) (Option.some Jvm.ClassFile.FieldType.boolean)).before args0 about1 = true := code_word (m := ⟨1, 1⟩) (meth := k1m1) (c := k1c1) (by decide +kernel) rfl rfl rfl (by decide +kernel)
set_option maxRecDepth 65536 in
theorem w_c2 : (Jvm.Cond.code ({ cls := "com/example/joinweave/joinweave/graph/SteinerGraph", name := "numbers", desc := "([ZI)[I" } : Jvm.MethodName) prog_156_method_7_code (5 : Nat) (Option.some (Jvm.ClassFile.FieldType.array Jvm.ClassFile.FieldType.int))).before args0 about1 = true := code_word (m := ⟨2, 0⟩) (meth := k2m0) (c := k2c0) (by decide +kernel) rfl rfl rfl (by decide +kernel)
set_option maxRecDepth 65536 in
theorem w_c3 : (Jvm.Cond.code ({ cls := "com/example/joinweave/joinweave/graph/SteinerGraphNumbersPinLaw", name := "ok", desc := "([I[ZI)Z" } : Jvm.MethodName) method_3_code (4 : Nat) (Option.some Jvm.ClassFile.FieldType.boolean)).before args0 about1 = true := code_word (m := ⟨1, 2⟩) (meth := k1m2) (c := k1c2) (by decide +kernel) rfl rfl rfl (by decide +kernel)
def codes1 : List Jvm.Cond := [Jvm.Cond.code x code maxLocals ret, Jvm.Cond.code ({ cls := "com/example/joinweave/joinweave/graph/SteinerGraphNumbersPinLaw", name := "bit", desc := "(II)Z" } : Jvm.MethodName) method_2_code (2 : Nat) (Option.some Jvm.ClassFile.FieldType.boolean), Jvm.Cond.code ({ cls := "com/example/joinweave/joinweave/graph/SteinerGraph", name := "numbers", desc := "([ZI)[I" } : Jvm.MethodName) prog_156_method_7_code (5 : Nat) (Option.some (Jvm.ClassFile.FieldType.array Jvm.ClassFile.FieldType.int)), Jvm.Cond.code ({ cls := "com/example/joinweave/joinweave/graph/SteinerGraphNumbersPinLaw", name := "ok", desc := "([I[ZI)Z" } : Jvm.MethodName) method_3_code (4 : Nat) (Option.some Jvm.ClassFile.FieldType.boolean)]
set_option maxRecDepth 65536 in
theorem codes_eq : words1.filter isCode = codes1 := rfl
theorem w_codes : ∀ c ∈ words1.filter isCode, c.before args0 about1 = true := by
  rw [codes_eq]
  intro c hc
  simp only [codes1, List.mem_cons, List.not_mem_nil, or_false] at hc
  rcases hc with rfl | rfl | rfl | rfl
  · exact w_c0
  · exact w_c1
  · exact w_c2
  · exact w_c3
set_option maxRecDepth 65536 in
theorem w_t1 : words1.all (fun c => isCode c || c.before args0 about1) = true := by decide +kernel
theorem w_tables : (allAtoms (Jvm.Cond.code x code maxLocals ret :: tables_1)).before args0 about1 = true := by
  rw [allAtoms_all]
  show words1.all (fun c => c.before args0 about1) = true
  refine all_split ?_ w_codes
  rw [w_t1]
set_option maxRecDepth 65536 in
theorem w_case : (Jvm.Cond.and given_1 narrow_1).before args0 about1 = true := by decide +kernel
theorem w_applies : (headSpec (Jvm.Cond.code x code maxLocals ret :: tables_1) room_1).applies x e0.platform about1 = true :=
  (Spec.applies_iff w_frames).mpr ⟨w_running, w_runnable, w_alone, w_named, w_hears, w_ripe, w_room, w_tables⟩
theorem atStart : AtStart classFile x code maxLocals ret World_1 tables_1 room_1 Calls_1 rest_1 Pre_1 launch0 p0 e0 about1 theMethod args0 below0 :=
  ⟨lists_1, trivial, launch0.admits_env _ _ _, launch0.least_env, fairChoices_fair.cas, fairChoices_fair.clock, w_frames, w_args, w_heap, w_applies, trivial, trivial, w_case⟩
end start1
theorem witness_1 : WitnessClaimed_1 := ⟨start1.p0, start1.e0, start1.about1, start1.theMethod, start1.args0, start1.below0, start1.atStart⟩
end Jvm.Pilot.@@N@@
