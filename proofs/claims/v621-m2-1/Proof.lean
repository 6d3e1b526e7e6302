import JvmDerived
import JvmDerived.Pilot.@@N@@Statement
import JvmDerived.Pilot.@@N@@Code
set_option linter.unusedVariables false
set_option linter.unusedSimpArgs false
namespace Jvm.Pilot.@@N@@
open Jvm Jvm.ClassFile Sem Op Lib Jvm.Free Jvm.Stand Jvm.LawKit Jvm.RoadKit Bundle Jvm.Pilot.@@N@@.Jvm.D
/-! ## THE LAYER OF THIS SEAT (GoKit): one predicate 'Go': from this pc, these locals and this stack, over the heap h, with k cells and n slots made, the body ends as Q says -/
abbrev Noise : Type := Program × Launch × Env × State × MethodId × Array Value × List Frame × Method × Code
def Cx (E : Noise) (Z : State) (own nm : String) (bytes : ByteArray) (mx : Nat) (rt : Option FieldType) : Prop :=
  E.1.tables.exec = Jvm.exec ∧ E.2.2.2.2.2.2.2.2.code = bytes ∧ E.2.2.2.2.2.2.2.2.maxLocals = mx ∧ Z.Warmed39 E.2.2.2.1.vm ∧ E.2.2.2.1.vm.findClass own = some E.2.2.2.2.1.cls ∧ E.2.2.2.2.2.2.2.1.sig.returnType = rt ∧ E.2.2.2.2.2.2.2.1.locks = false ∧ E.2.2.2.2.2.2.2.1.name = nm
abbrev Sd (E : Noise) (R : Room) (T : State) (locs : List Loc) (k n : Nat) : Prop := Stand E.1 E.2.1 E.2.2.1 R E.2.2.2.1 E.2.2.2.2.1 E.2.2.2.2.2.1 E.2.2.2.2.2.2.1 E.2.2.2.2.2.2.2.1 E.2.2.2.2.2.2.2.2 T locs k n
abbrev Sp (E : Noise) (a b : State) : Prop := Steps E.1.tables E.2.2.1 E.2.2.2.2.2.2.1 a b
def Go (E : Noise) (R : Room) (n0 : Nat) (Q : Option Value → Heap → Prop) (h : Heap) (k n : Nat) (pc : Nat) (Ls : Array Slot) (st : List Value) : Prop :=
  ∀ (T : State) (locs : List Loc), Sd E R T locs k n → T.heap = h → Fr n0 locs →
    ∃ s₂ o, Sp E (T.setTop (mkF E.2.2.2.2.1 pc Ls st)) s₂ ∧ s₂.status = .running ∧ Ended s₂ E.2.2.2.2.2.2.1 o ∧ ∃ v L, o = .returned v ∧ (Q v s₂.heap ∧ Fr n0 L) ∧ FrameEnd E.2.2.2.1 o s₂ L R.cells R.slots
def Met (Z : State) (y : MethodName) (bytes : ByteArray) (mx : Nat) (rt : Option FieldType) (R : Room) (as : Array Value) (h0 : Heap) (n0 : Nat) (Q : Option Value → Heap → Prop) : Prop :=
  ∀ (l : Launch) (ws : List Jvm.Cond), MetFree l y (head1 (Jvm.Cond.code y bytes mx rt :: ws) R) (fun a U => a = as ∧ Z.Warmed39 U.vm ∧ U.heap = h0) (fun _ _ _ _ _ => True)
    (fun _ U o U' => ∃ v L, o = .returned v ∧ (Q v U'.heap ∧ Fr n0 L) ∧ FrameEnd U o U' L R.cells R.slots)
section GoKit
variable {E : Noise} {Z : State} {own nm : String} {bytes : ByteArray} {mx : Nat} {rt : Option FieldType} {R : Room} {n0 : Nat} {Q : Option Value → Heap → Prop} {h : Heap} {k n : Nat} {pc pc' : Nat} {Ls Ls' : Array Slot} {st rest : List Value} {a0 : Array Value}
theorem own_w {i : Nat} {d : Jvm.Cond} (hw : ∀ d ∈ tables_1, d.before a0 Z = true) (q : tables_1[i]? = some d) : d.before a0 Z = true := hw _ (List.mem_of_getElem? q)
theorem nne {x y : Nat} (q : x ≠ y) : @Ne Jvm.Addr x y := q
theorem nnS {x y : Nat} {L : List Nat} (q : x ≠ y) (r : x ∉ L) : x ∉ y :: L := ninS q r
theorem exa_lt {a : Nat} {K : String} (F : Exa Z h a K) : a < h.size := F.lt
theorem keep_wr {h0 h' : Heap} {ws : List Nat} {a sl : Nat} {v : Value} (K : Keep h0 h ws) (W : Wr h h' a sl v) (q : h0.size ≤ a) : Keep h0 h' ws := K.wr W (Or.inr q)
theorem met_of {y : MethodName} {as : Array Value} {h0 : Heap} (hpn : plainFor y = true) (hent : ∀ m, entryFrame m as mx = mkF m 0 Ls [])
    (H : ∀ E : Noise, Cx E Z y.cls y.name bytes mx rt → Go E R n0 Q h0 0 0 0 Ls []) : Met Z y bytes mx rt R as h0 n0 Q := by
  intro l ws
  refine MetFree.of_bodySF hpn hisR ?_
  intro p e s m args below meth c s₁ Bd hml0 hP hK
  obtain ⟨rfl, hZ, hh⟩ := hP
  have hown : s.vm.findClass y.cls = some m.cls := findClass_of_methodNamed Bd.named
  have X0 : Stand p l e R s m args below meth c s₁ [] 0 0 := Stand.of_body Bd
  have e0 : s₁.heap = h0 := by rw [← hh, Bd.state]; rfl
  obtain ⟨s₂, o, q1, q2, q3, q4⟩ := H (p, l, e, s, m, args, below, meth, c) ⟨Bd.exec, Bd.bytes, hml0, hZ, hown, Bd.returns, Bd.notSynchronized, (name_of_methodNamed Bd.named Bd.method).1⟩ s₁ [] X0 e0 (Fr.nil n0)
  exact ⟨s₂, o, castTop (hent m) q1, q2, q3, q4⟩
theorem go_step (H : Go E R n0 Q h k n pc' Ls' rest) (f : ∀ T locs target, Sd E R T locs k n → T.heap = h → Sp E (T.setTop (mkF E.2.2.2.2.1 pc' Ls' rest)) target → Sp E (T.setTop (mkF E.2.2.2.2.1 pc Ls st)) target) : Go E R n0 Q h k n pc Ls st := fun T locs X hh N => by
  obtain ⟨s₂, o, q1, q⟩ := H T locs X hh N
  exact ⟨s₂, o, f T locs s₂ X hh q1, q⟩
theorem go_more {k' n' : Nat} (hk : k ≤ k') (hn : n ≤ n') (H : Go E R n0 Q h k' n' pc Ls st) : Go E R n0 Q h k n pc Ls st := fun T locs X hh N => H T locs (X.more hk hn) hh N
theorem go_aloadN (C : Cx E Z own nm bytes mx rt) {i : Fin 4} {v : Value} (hd : decode bytes pc = .ok (.aload_n i, 1)) (hl : Ls[i.val]? = some (.val v)) (hv : v.isRef = true) (hp : pc + 1 = pc') (H : Go E R n0 Q h k n pc' Ls (v :: st)) : Go E R n0 Q h k n pc Ls st := by
  subst hp; exact go_step H fun T locs t X _ q => XS.aloadN X.here C.1 rfl (hb C.2.1 hd) hl hv q
theorem go_aload (C : Cx E Z own nm bytes mx rt) {i : Nat} {v : Value} (hd : decode bytes pc = .ok (.aload i, 2)) (hl : Ls[i]? = some (.val v)) (hv : v.isRef = true) (hp : pc + 2 = pc') (H : Go E R n0 Q h k n pc' Ls (v :: st)) : Go E R n0 Q h k n pc Ls st := by
  subst hp; exact go_step H fun T locs t X _ q => XS.aload X.here C.1 rfl (hb C.2.1 hd) hl hv q
theorem go_iloadN (C : Cx E Z own nm bytes mx rt) {i : Fin 4} {v : Int32} (hd : decode bytes pc = .ok (.iload_n i, 1)) (hl : Ls[i.val]? = some (.val (.int v))) (hp : pc + 1 = pc') (H : Go E R n0 Q h k n pc' Ls (.int v :: st)) : Go E R n0 Q h k n pc Ls st := by
  subst hp; exact go_step H fun T locs t X _ q => XS.iloadN X.here C.1 rfl (hb C.2.1 hd) hl q
theorem go_iload (C : Cx E Z own nm bytes mx rt) {i : Nat} {v : Int32} (hd : decode bytes pc = .ok (.iload i, 2)) (hl : Ls[i]? = some (.val (.int v))) (hp : pc + 2 = pc') (H : Go E R n0 Q h k n pc' Ls (.int v :: st)) : Go E R n0 Q h k n pc Ls st := by
  subst hp; exact go_step H fun T locs t X _ q => XS.iload X.here C.1 rfl (hb C.2.1 hd) hl q
theorem go_lloadN (C : Cx E Z own nm bytes mx rt) {i : Fin 4} {v : Int64} (hd : decode bytes pc = .ok (.lload_n i, 1)) (hl : Ls[i.val]? = some (.val (.long v))) (hp : pc + 1 = pc') (H : Go E R n0 Q h k n pc' Ls (.long v :: st)) : Go E R n0 Q h k n pc Ls st := by
  subst hp; exact go_step H fun T locs t X _ q => XT.lloadN X.here C.1 rfl (hb C.2.1 hd) hl q
theorem go_lload (C : Cx E Z own nm bytes mx rt) {i : Nat} {v : Int64} (hd : decode bytes pc = .ok (.lload i, 2)) (hl : Ls[i]? = some (.val (.long v))) (hp : pc + 2 = pc') (H : Go E R n0 Q h k n pc' Ls (.long v :: st)) : Go E R n0 Q h k n pc Ls st := by
  subst hp; exact go_step H fun T locs t X _ q => XT.lload X.here C.1 rfl (hb C.2.1 hd) hl q
theorem go_iconst (C : Cx E Z own nm bytes mx rt) {i : Int} {z : Int32} (hd : decode bytes pc = .ok (.iconst i, 1)) (hz : Int32.ofInt i = z) (hp : pc + 1 = pc') (H : Go E R n0 Q h k n pc' Ls (.int z :: st)) : Go E R n0 Q h k n pc Ls st := by
  subst hp hz; exact go_step H fun T locs t X _ q => XS.iconst X.here C.1 rfl (hb C.2.1 hd) q
theorem go_lconst (C : Cx E Z own nm bytes mx rt) {i : Fin 2} {z : Int64} (hd : decode bytes pc = .ok (.lconst i, 1)) (hz : Int64.ofNat i = z) (hp : pc + 1 = pc') (H : Go E R n0 Q h k n pc' Ls (.long z :: st)) : Go E R n0 Q h k n pc Ls st := by
  subst hp hz; exact go_step H fun T locs t X _ q => XT.lconst X.here C.1 rfl (hb C.2.1 hd) q
theorem go_bipush (C : Cx E Z own nm bytes mx rt) {i : Int} {z : Int32} (hd : decode bytes pc = .ok (.bipush i, 2)) (hz : (Int8.ofInt i).toInt32 = z) (hp : pc + 2 = pc') (H : Go E R n0 Q h k n pc' Ls (.int z :: st)) : Go E R n0 Q h k n pc Ls st := by
  subst hp hz; exact go_step H fun T locs t X _ q => XS.bipush X.here C.1 rfl (hb C.2.1 hd) q
theorem go_sipush (C : Cx E Z own nm bytes mx rt) {i : Int} {z : Int32} (hd : decode bytes pc = .ok (.sipush i, 3)) (hz : (Int16.ofInt i).toInt32 = z) (hp : pc + 3 = pc') (H : Go E R n0 Q h k n pc' Ls (.int z :: st)) : Go E R n0 Q h k n pc Ls st := by
  subst hp hz; exact go_step H fun T locs t X _ q => XS.sipush X.here C.1 rfl (hb C.2.1 hd) q
theorem go_aconstNull (C : Cx E Z own nm bytes mx rt) (hd : decode bytes pc = .ok (.aconst_null, 1)) (hp : pc + 1 = pc') (H : Go E R n0 Q h k n pc' Ls (.null :: st)) : Go E R n0 Q h k n pc Ls st := by
  subst hp; exact go_step H fun T locs t X _ q => XS.aconstNull X.here C.1 rfl (hb C.2.1 hd) q
theorem go_ldc (C : Cx E Z own nm bytes mx rt) {i : Nat} {z : Int32} (hd : decode bytes pc = .ok (.ldc i, 2)) (w1 : (Cond.constant own i z).before a0 Z = true) (hp : pc + 2 = pc') (H : Go E R n0 Q h k n pc' Ls (.int z :: st)) : Go E R n0 Q h k n pc Ls st := by
  subst hp; exact go_step H fun T locs t X _ q => X.ldcInt C.1 C.2.2.2.2.1 (mvT C.2.2.2.1 w1) (g := mkF _ pc Ls st) rfl (hb C.2.1 hd) t q
theorem go_ldc2L (C : Cx E Z own nm bytes mx rt) {i : Nat} {z : Int64} (hd : decode bytes pc = .ok (.ldc2_w i, 3)) (w1 : (Cond.constantLong own i z).before a0 Z = true) (hp : pc + 3 = pc') (H : Go E R n0 Q h k n pc' Ls (.long z :: st)) : Go E R n0 Q h k n pc Ls st := by
  subst hp; exact go_step H fun T locs t X _ q => X.ldc2Long C.1 C.2.2.2.2.1 (mvT C.2.2.2.1 w1) (g := mkF _ pc Ls st) rfl (hb C.2.1 hd) t q
theorem go_istoreN (C : Cx E Z own nm bytes mx rt) {i : Fin 4} {x : Int32} (hd : decode bytes pc = .ok (.istore_n i, 1)) (hl : storeLocals Ls i.val (.int x) = some Ls') (hp : pc + 1 = pc') (H : Go E R n0 Q h k n pc' Ls' st) : Go E R n0 Q h k n pc Ls (.int x :: st) := by
  subst hp; exact go_step H fun T locs t X _ q => XS.istoreN X.here C.1 rfl (hb C.2.1 hd) rfl hl q
theorem go_istore (C : Cx E Z own nm bytes mx rt) {i : Nat} {x : Int32} (hd : decode bytes pc = .ok (.istore i, 2)) (hl : storeLocals Ls i (.int x) = some Ls') (hp : pc + 2 = pc') (H : Go E R n0 Q h k n pc' Ls' st) : Go E R n0 Q h k n pc Ls (.int x :: st) := by
  subst hp; exact go_step H fun T locs t X _ q => XS.istore X.here C.1 rfl (hb C.2.1 hd) rfl hl q
theorem go_astoreN (C : Cx E Z own nm bytes mx rt) {i : Fin 4} {x : Value} (hd : decode bytes pc = .ok (.astore_n i, 1)) (hv : x.isRef = true) (hl : storeLocals Ls i.val x = some Ls') (hp : pc + 1 = pc') (H : Go E R n0 Q h k n pc' Ls' st) : Go E R n0 Q h k n pc Ls (x :: st) := by
  subst hp; exact go_step H fun T locs t X _ q => XS.astoreN X.here C.1 rfl (hb C.2.1 hd) rfl hv hl q
theorem go_astore (C : Cx E Z own nm bytes mx rt) {i : Nat} {x : Value} (hd : decode bytes pc = .ok (.astore i, 2)) (hv : x.isRef = true) (hl : storeLocals Ls i x = some Ls') (hp : pc + 2 = pc') (H : Go E R n0 Q h k n pc' Ls' st) : Go E R n0 Q h k n pc Ls (x :: st) := by
  subst hp; exact go_step H fun T locs t X _ q => XS.astore X.here C.1 rfl (hb C.2.1 hd) rfl hv hl q
theorem go_lstoreN (C : Cx E Z own nm bytes mx rt) {i : Fin 4} {x : Int64} (hd : decode bytes pc = .ok (.lstore_n i, 1)) (hl : storeLocals Ls i.val (.long x) = some Ls') (hp : pc + 1 = pc') (H : Go E R n0 Q h k n pc' Ls' st) : Go E R n0 Q h k n pc Ls (.long x :: st) := by
  subst hp; exact go_step H fun T locs t X _ q => XT.lstoreN X.here C.1 rfl (hb C.2.1 hd) rfl hl q
theorem go_lstore (C : Cx E Z own nm bytes mx rt) {i : Nat} {x : Int64} (hd : decode bytes pc = .ok (.lstore i, 2)) (hl : storeLocals Ls i (.long x) = some Ls') (hp : pc + 2 = pc') (H : Go E R n0 Q h k n pc' Ls' st) : Go E R n0 Q h k n pc Ls (.long x :: st) := by
  subst hp; exact go_step H fun T locs t X _ q => XT.lstore X.here C.1 rfl (hb C.2.1 hd) rfl hl q
theorem go_iinc (C : Cx E Z own nm bytes mx rt) {i : Nat} {d : Int} {x z : Int32} (hd : decode bytes pc = .ok (.iinc i d, 3)) (hl : Ls[i]? = some (.val (.int x))) (hz : Int32.ofInt d = z) (hl' : storeLocals Ls i (.int (x + z)) = some Ls') (hp : pc + 3 = pc') (H : Go E R n0 Q h k n pc' Ls' st) : Go E R n0 Q h k n pc Ls st := by
  subst hp hz; exact go_step H fun T locs t X _ q => XS.iinc X.here C.1 rfl (hb C.2.1 hd) hl hl' q
theorem go_dup (C : Cx E Z own nm bytes mx rt) {x : Value} (hd : decode bytes pc = .ok (.dup, 1)) (hc : x.category = 1) (hp : pc + 1 = pc') (H : Go E R n0 Q h k n pc' Ls (x :: x :: st)) : Go E R n0 Q h k n pc Ls (x :: st) := by
  subst hp; exact go_step H fun T locs t X _ q => XS.dup X.here C.1 rfl (hb C.2.1 hd) rfl hc q
theorem go_dupX1 (C : Cx E Z own nm bytes mx rt) {x y : Value} (hd : decode bytes pc = .ok (.dup_x1, 1)) (hc : x.category = 1) (hc' : y.category = 1) (hp : pc + 1 = pc') (H : Go E R n0 Q h k n pc' Ls (x :: y :: x :: st)) : Go E R n0 Q h k n pc Ls (x :: y :: st) := by
  subst hp; exact go_step H fun T locs t X _ q => XT.dupX1 X.here C.1 rfl (hb C.2.1 hd) rfl hc hc' q
theorem go_dup2 (C : Cx E Z own nm bytes mx rt) {x y : Value} (hd : decode bytes pc = .ok (.dup2, 1)) (hc : x.category = 1) (hc' : y.category = 1) (hp : pc + 1 = pc') (H : Go E R n0 Q h k n pc' Ls (x :: y :: x :: y :: st)) : Go E R n0 Q h k n pc Ls (x :: y :: st) := by
  subst hp; exact go_step H fun T locs t X _ q => XT.dup2 X.here C.1 rfl (hb C.2.1 hd) rfl hc hc' q
theorem go_pop (C : Cx E Z own nm bytes mx rt) {x : Value} (hd : decode bytes pc = .ok (.pop, 1)) (hc : x.category = 1) (hp : pc + 1 = pc') (H : Go E R n0 Q h k n pc' Ls st) : Go E R n0 Q h k n pc Ls (x :: st) := by
  subst hp; exact go_step H fun T locs t X _ q => XT.pop X.here C.1 rfl (hb C.2.1 hd) rfl hc q
theorem go_iadd (C : Cx E Z own nm bytes mx rt) {x y : Int32} (hd : decode bytes pc = .ok (.iadd, 1)) (hp : pc + 1 = pc') (H : Go E R n0 Q h k n pc' Ls (.int (x + y) :: st)) : Go E R n0 Q h k n pc Ls (.int y :: .int x :: st) := by
  subst hp; exact go_step H fun T locs t X _ q => XS.iadd X.here C.1 rfl (hb C.2.1 hd) rfl q
theorem go_isub (C : Cx E Z own nm bytes mx rt) {x y : Int32} (hd : decode bytes pc = .ok (.isub, 1)) (hp : pc + 1 = pc') (H : Go E R n0 Q h k n pc' Ls (.int (x - y) :: st)) : Go E R n0 Q h k n pc Ls (.int y :: .int x :: st) := by
  subst hp; exact go_step H fun T locs t X _ q => XS.isub X.here C.1 rfl (hb C.2.1 hd) rfl q
theorem go_imul (C : Cx E Z own nm bytes mx rt) {x y : Int32} (hd : decode bytes pc = .ok (.imul, 1)) (hp : pc + 1 = pc') (H : Go E R n0 Q h k n pc' Ls (.int (x * y) :: st)) : Go E R n0 Q h k n pc Ls (.int y :: .int x :: st) := by
  subst hp; exact go_step H fun T locs t X _ q => XS.imul X.here C.1 rfl (hb C.2.1 hd) rfl q
theorem go_irem (C : Cx E Z own nm bytes mx rt) {x y : Int32} (hd : decode bytes pc = .ok (.irem, 1)) (hy : y ≠ 0) (hp : pc + 1 = pc') (H : Go E R n0 Q h k n pc' Ls (.int (x % y) :: st)) : Go E R n0 Q h k n pc Ls (.int y :: .int x :: st) := by
  subst hp; exact go_step H fun T locs t X _ q => iremM X C.1 rfl (hb C.2.1 hd) rfl hy q
theorem go_iand (C : Cx E Z own nm bytes mx rt) {x y : Int32} (hd : decode bytes pc = .ok (.iand, 1)) (hp : pc + 1 = pc') (H : Go E R n0 Q h k n pc' Ls (.int (x &&& y) :: st)) : Go E R n0 Q h k n pc Ls (.int y :: .int x :: st) := by
  subst hp; exact go_step H fun T locs t X _ q => XS.iand X.here C.1 rfl (hb C.2.1 hd) rfl q
theorem go_ior (C : Cx E Z own nm bytes mx rt) {x y : Int32} (hd : decode bytes pc = .ok (.ior, 1)) (hp : pc + 1 = pc') (H : Go E R n0 Q h k n pc' Ls (.int (x ||| y) :: st)) : Go E R n0 Q h k n pc Ls (.int y :: .int x :: st) := by
  subst hp; exact go_step H fun T locs t X _ q => XT.ior X.here C.1 rfl (hb C.2.1 hd) rfl q
theorem go_ishl (C : Cx E Z own nm bytes mx rt) {x y : Int32} (hd : decode bytes pc = .ok (.ishl, 1)) (hp : pc + 1 = pc') (H : Go E R n0 Q h k n pc' Ls (.int (x <<< (y &&& 31)) :: st)) : Go E R n0 Q h k n pc Ls (.int y :: .int x :: st) := by
  subst hp; exact go_step H fun T locs t X _ q => XT.ishl X.here C.1 rfl (hb C.2.1 hd) rfl q
theorem go_ishr (C : Cx E Z own nm bytes mx rt) {x y : Int32} (hd : decode bytes pc = .ok (.ishr, 1)) (hp : pc + 1 = pc') (H : Go E R n0 Q h k n pc' Ls (.int (x >>> (y &&& 31)) :: st)) : Go E R n0 Q h k n pc Ls (.int y :: .int x :: st) := by
  subst hp; exact go_step H fun T locs t X _ q => XT.ishr X.here C.1 rfl (hb C.2.1 hd) rfl q
theorem go_iushr (C : Cx E Z own nm bytes mx rt) {x y : Int32} (hd : decode bytes pc = .ok (.iushr, 1)) (hp : pc + 1 = pc') (H : Go E R n0 Q h k n pc' Ls (.int (XT.ushr x y) :: st)) : Go E R n0 Q h k n pc Ls (.int y :: .int x :: st) := by
  subst hp; exact go_step H fun T locs t X _ q => XT.iushr X.here C.1 rfl (hb C.2.1 hd) rfl q
theorem go_lmul (C : Cx E Z own nm bytes mx rt) {x y : Int64} (hd : decode bytes pc = .ok (.lmul, 1)) (hp : pc + 1 = pc') (H : Go E R n0 Q h k n pc' Ls (.long (x * y) :: st)) : Go E R n0 Q h k n pc Ls (.long y :: .long x :: st) := by
  subst hp; exact go_step H fun T locs t X _ q => XT.lmul X.here C.1 rfl (hb C.2.1 hd) rfl q
theorem go_land (C : Cx E Z own nm bytes mx rt) {x y : Int64} (hd : decode bytes pc = .ok (.land, 1)) (hp : pc + 1 = pc') (H : Go E R n0 Q h k n pc' Ls (.long (x &&& y) :: st)) : Go E R n0 Q h k n pc Ls (.long y :: .long x :: st) := by
  subst hp; exact go_step H fun T locs t X _ q => XT.land X.here C.1 rfl (hb C.2.1 hd) rfl q
theorem go_lushr (C : Cx E Z own nm bytes mx rt) {x : Int64} {y : Int32} (hd : decode bytes pc = .ok (.lushr, 1)) (hp : pc + 1 = pc') (H : Go E R n0 Q h k n pc' Ls (.long (XT.ushrL x y) :: st)) : Go E R n0 Q h k n pc Ls (.int y :: .long x :: st) := by
  subst hp; exact go_step H fun T locs t X _ q => XT.lushr X.here C.1 rfl (hb C.2.1 hd) rfl q
theorem go_ldiv (C : Cx E Z own nm bytes mx rt) {x y : Int64} (hd : decode bytes pc = .ok (.ldiv, 1)) (hy : y ≠ 0) (hp : pc + 1 = pc') (H : Go E R n0 Q h k n pc' Ls (.long (x / y) :: st)) : Go E R n0 Q h k n pc Ls (.long y :: .long x :: st) := by
  subst hp; exact go_step H fun T locs t X _ q => XT.ldiv X.here C.1 rfl (hb C.2.1 hd) rfl hy q
theorem go_lrem (C : Cx E Z own nm bytes mx rt) {x y : Int64} (hd : decode bytes pc = .ok (.lrem, 1)) (hy : y ≠ 0) (hp : pc + 1 = pc') (H : Go E R n0 Q h k n pc' Ls (.long (x % y) :: st)) : Go E R n0 Q h k n pc Ls (.long y :: .long x :: st) := by
  subst hp; rw [← lrem_mod] at H; exact go_step H fun T locs t X _ q => XT.lrem X.here C.1 rfl (hb C.2.1 hd) rfl hy q
theorem go_i2l (C : Cx E Z own nm bytes mx rt) {x : Int32} (hd : decode bytes pc = .ok (.i2l, 1)) (hp : pc + 1 = pc') (H : Go E R n0 Q h k n pc' Ls (.long x.toInt64 :: st)) : Go E R n0 Q h k n pc Ls (.int x :: st) := by
  subst hp; exact go_step H fun T locs t X _ q => XT.i2l X.here C.1 rfl (hb C.2.1 hd) rfl q
theorem go_lcmp (C : Cx E Z own nm bytes mx rt) {x y : Int64} (hd : decode bytes pc = .ok (.lcmp, 1)) (hp : pc + 1 = pc') (H : Go E R n0 Q h k n pc' Ls (.int (XT.cmpL x y) :: st)) : Go E R n0 Q h k n pc Ls (.long y :: .long x :: st) := by
  subst hp; exact go_step H fun T locs t X _ q => XT.lcmp X.here C.1 rfl (hb C.2.1 hd) rfl q
theorem go_goto (C : Cx E Z own nm bytes mx rt) {o : Int} (hd : decode bytes pc = .ok (.goto o, 3)) (ho : 0 ≤ (pc : Int) + o) (hp : ((pc : Int) + o).toNat = pc') (H : Go E R n0 Q h k n pc' Ls st) : Go E R n0 Q h k n pc Ls st :=
  go_step H fun T locs t X _ q => XS.goto X.here C.1 rfl rfl (hb C.2.1 hd) ho hp q
theorem go_ifY (C : Cx E Z own nm bytes mx rt) {cd : ClassFile.Cond} {x : Int32} {o : Int} (hd : decode bytes pc = .ok (.ifCond cd o, 3)) (hc : ifCond.holds cd x = true) (ho : 0 ≤ (pc : Int) + o) (hp : ((pc : Int) + o).toNat = pc') (H : Go E R n0 Q h k n pc' Ls st) : Go E R n0 Q h k n pc Ls (.int x :: st) :=
  go_step H fun T locs t X _ q => XS.ifYes X.here C.1 rfl rfl (hb C.2.1 hd) rfl hc ho hp q
theorem go_ifN (C : Cx E Z own nm bytes mx rt) {cd : ClassFile.Cond} {x : Int32} {o : Int} (hd : decode bytes pc = .ok (.ifCond cd o, 3)) (hc : ifCond.holds cd x = false) (hp : pc + 3 = pc') (H : Go E R n0 Q h k n pc' Ls st) : Go E R n0 Q h k n pc Ls (.int x :: st) := by
  subst hp; exact go_step H fun T locs t X _ q => XS.ifNo X.here C.1 rfl (hb C.2.1 hd) rfl hc q
theorem go_icY (C : Cx E Z own nm bytes mx rt) {cd : ClassFile.Cond} {x y : Int32} {o : Int} (hd : decode bytes pc = .ok (.if_icmp cd o, 3)) (hc : if_icmp.holds cd x y = true) (ho : 0 ≤ (pc : Int) + o) (hp : ((pc : Int) + o).toNat = pc') (H : Go E R n0 Q h k n pc' Ls st) : Go E R n0 Q h k n pc Ls (.int y :: .int x :: st) :=
  go_step H fun T locs t X _ q => XS.icmpYes X.here C.1 rfl rfl (hb C.2.1 hd) rfl hc ho hp q
theorem go_icN (C : Cx E Z own nm bytes mx rt) {cd : ClassFile.Cond} {x y : Int32} {o : Int} (hd : decode bytes pc = .ok (.if_icmp cd o, 3)) (hc : if_icmp.holds cd x y = false) (hp : pc + 3 = pc') (H : Go E R n0 Q h k n pc' Ls st) : Go E R n0 Q h k n pc Ls (.int y :: .int x :: st) := by
  subst hp; exact go_step H fun T locs t X _ q => XS.icmpNo X.here C.1 rfl (hb C.2.1 hd) rfl hc q
/-- what a comparison asks, as a proposition -/
def rel : ClassFile.Cond → Int32 → Int32 → Prop
  | .eq, x, y => x.toInt = y.toInt
  | .ne, x, y => ¬ x.toInt = y.toInt
  | .lt, x, y => x.toInt < y.toInt
  | .ge, x, y => y.toInt ≤ x.toInt
  | .gt, x, y => y.toInt < x.toInt
  | .le, x, y => x.toInt ≤ y.toInt
theorem rel_holds (cd : ClassFile.Cond) (x y : Int32) : if_icmp.holds cd x y = true ↔ rel cd x y := by
  cases cd <;> simp [if_icmp.holds, rel, Int32.lt_iff_toInt_lt, Int32.le_iff_toInt_le, Int32.toInt_inj]
theorem rel_holds0 (cd : ClassFile.Cond) (x : Int32) : ifCond.holds cd x = true ↔ rel cd x 0 := by rw [if0]; exact rel_holds cd x 0
/-- both ways of a comparison -/
theorem go_ic (C : Cx E Z own nm bytes mx rt) {cd : ClassFile.Cond} {x y : Int32} {o : Int} {pcY pcN : Nat} (hd : decode bytes pc = .ok (.if_icmp cd o, 3)) (ho : 0 ≤ (pc : Int) + o) (hpY : ((pc : Int) + o).toNat = pcY) (hpN : pc + 3 = pcN)
    (HY : rel cd x y → Go E R n0 Q h k n pcY Ls st) (HN : ¬ rel cd x y → Go E R n0 Q h k n pcN Ls st) : Go E R n0 Q h k n pc Ls (.int y :: .int x :: st) := by
  cases q : if_icmp.holds cd x y with
  | true => exact go_icY C hd q ho hpY (HY ((rel_holds cd x y).mp q))
  | false => exact go_icN C hd q hpN (HN fun r => by rw [(rel_holds cd x y).mpr r] at q; cases q)
theorem go_if (C : Cx E Z own nm bytes mx rt) {cd : ClassFile.Cond} {x : Int32} {o : Int} {pcY pcN : Nat} (hd : decode bytes pc = .ok (.ifCond cd o, 3)) (ho : 0 ≤ (pc : Int) + o) (hpY : ((pc : Int) + o).toNat = pcY) (hpN : pc + 3 = pcN)
    (HY : rel cd x 0 → Go E R n0 Q h k n pcY Ls st) (HN : ¬ rel cd x 0 → Go E R n0 Q h k n pcN Ls st) : Go E R n0 Q h k n pc Ls (.int x :: st) := by
  cases q : ifCond.holds cd x with
  | true => exact go_ifY C hd q ho hpY (HY ((rel_holds0 cd x).mp q))
  | false => exact go_ifN C hd q hpN (HN fun r => by rw [(rel_holds0 cd x).mpr r] at q; cases q)
/-! the ends -/
theorem go_end {v : Option Value} (hr : ∀ T locs, Sd E R T locs k n → ∀ fs, (∀ (f : JFrame) (acts : List Action), f.method = E.2.2.2.2.1 → f.locked = none → f.entered = [] → (doReturn E.2.2.1 (T.setTop f) acts v).1 = T.setFrames fs) → Sp E (T.setTop (mkF E.2.2.2.2.1 pc Ls st)) (T.setFrames fs))
    (hlk : E.2.2.2.2.2.2.2.1.locks = false) (hv : E.2.2.2.2.2.2.2.1.sig.returnType = none → v = none) (hk : k ≤ R.cells) (hn : n ≤ R.slots) (hQ : Q v h) : Go E R n0 Q h k n pc Ls st := fun T locs X hh N => by
  obtain ⟨fs, q1, q2, q3, q4, q5⟩ := X.leave (v := v) hv hlk
  exact ⟨_, _, hr T locs X fs q1, q2, q3, _, _, rfl, ⟨by show Q v T.heap; rw [hh]; exact hQ, N⟩, ⟨_, rfl⟩, q4, q5.mono hk hn⟩
theorem go_retI (C : Cx E Z own nm bytes mx (some .int)) {z : Int32} (hd : decode bytes pc = .ok (.ireturn, 1)) (hk : k ≤ R.cells) (hn : n ≤ R.slots) (hQ : Q (some (.int z)) h) : Go E R n0 Q h k n pc Ls (.int z :: st) :=
  go_end (fun T locs X fs hl => retOut X C.1 (w := .int z) (t := .int) C.2.2.2.2.2.1 rfl (Or.inl ⟨rfl, Or.inl rfl, _, rfl⟩) (hb C.2.1 hd) hl) C.2.2.2.2.2.2.1 (fun q => by rw [C.2.2.2.2.2.1] at q; cases q) hk hn hQ
theorem go_retZ (C : Cx E Z own nm bytes mx (some .boolean)) {z : Int32} (hd : decode bytes pc = .ok (.ireturn, 1)) (hz : z = 0 ∨ z = 1) (hk : k ≤ R.cells) (hn : n ≤ R.slots) (hQ : Q (some (.int z)) h) : Go E R n0 Q h k n pc Ls (.int z :: st) :=
  go_end (fun T locs X fs hl => retOut X C.1 (w := .int z) (t := .boolean) C.2.2.2.2.2.1 (by rcases hz with rfl | rfl <;> rfl) (Or.inl ⟨rfl, Or.inr (Or.inl rfl), _, rfl⟩) (hb C.2.1 hd) hl) C.2.2.2.2.2.2.1 (fun q => by rw [C.2.2.2.2.2.1] at q; cases q) hk hn hQ
theorem go_retL (C : Cx E Z own nm bytes mx (some .long)) {z : Int64} (hd : decode bytes pc = .ok (.lreturn, 1)) (hk : k ≤ R.cells) (hn : n ≤ R.slots) (hQ : Q (some (.long z)) h) : Go E R n0 Q h k n pc Ls (.long z :: st) :=
  go_end (fun T locs X fs hl => retOut X C.1 (w := .long z) (t := .long) C.2.2.2.2.2.1 rfl (Or.inr (Or.inl ⟨rfl, rfl, _, rfl⟩)) (hb C.2.1 hd) hl) C.2.2.2.2.2.2.1 (fun q => by rw [C.2.2.2.2.2.1] at q; cases q) hk hn hQ
theorem go_retA {t : FieldType} (C : Cx E Z own nm bytes mx (some t)) {w : Value} (hd : decode bytes pc = .ok (.areturn, 1)) (ht : t.isReference = true) (hw : w.isRef = true) (hnw : narrow t w = w) (hk : k ≤ R.cells) (hn : n ≤ R.slots) (hQ : Q (some w) h) : Go E R n0 Q h k n pc Ls (w :: st) :=
  go_end (fun T locs X fs hl => retOut X C.1 (w := w) (t := t) C.2.2.2.2.2.1 hnw (Or.inr (Or.inr (Or.inr (Or.inr ⟨rfl, ht, hw⟩)))) (hb C.2.1 hd) hl) C.2.2.2.2.2.2.1 (fun q => by rw [C.2.2.2.2.2.1] at q; cases q) hk hn hQ
theorem go_retV (C : Cx E Z own nm bytes mx none) (hd : decode bytes pc = .ok (.return_, 1)) (hk : k ≤ R.cells) (hn : n ≤ R.slots) (hQ : Q none h) : Go E R n0 Q h k n pc Ls [] :=
  go_end (fun T locs X fs hl => X.returnOut C.1 C.2.2.2.2.2.1 (hb C.2.1 hd) hl) C.2.2.2.2.2.2.1 (fun _ => rfl) hk hn hQ
/-! calls -/
theorem go_callS (C : Cx E Z own nm bytes mx rt) {i : Nat} {y : MethodName} {by' : ByteArray} {mx' : Nat} {rt' : Option FieldType} {rm : Room} {Qc : Option Value → Heap → Prop} {argsL : List Value}
    (w1 : (Cond.methodLink own i y).before a0 Z = true) (w2 : (Cond.static y).before a0 Z = true) (w3 : (Cond.initialized y.cls).before a0 Z = true) (w4 : (Cond.code y by' mx' rt').before a0 Z = true)
    (hM : Met Z y by' mx' rt' rm argsL.toArray h n0 Qc) (hd : decode bytes pc = .ok (.invokestatic i, 3)) (hsz : Ls.size = mx) (hst : st = argsL.reverse ++ rest)
    (hlen : ∀ sig, parseMethodDescriptor y.desc = some sig → argsL.length = sig.parameters.length) (hy : y.cls ≠ "java/lang/invoke/MethodHandle" ∧ y.cls ≠ "java/lang/invoke/VarHandle")
    (hfr : rm.frames + 1 ≤ R.frames) (W : Nat) (hW : (rest.map fun v => v.category).sum = W) (hlo : W + (mx' + 11) + rm.locals ≤ R.locals) {k' n' : Nat} (hk' : k + rm.cells = k') (hn' : n + rm.slots = n') (hc : k' ≤ R.cells) (hs : n' ≤ R.slots) (hp : pc + 3 = pc')
    (H : ∀ v h', Qc v h' → Go E R n0 Q h' k' n' pc' Ls (v.toList ++ rest)) : Go E R n0 Q h k n pc Ls st := fun T locs X hh N => by
  subst hp hW hk' hn'
  obtain ⟨v, vm, ⟨T', L', k', n'⟩, -, X', ⟨Lc, hQc, l1, y1, z1⟩, stp⟩ := Jvm.LawKit.callS X C.1 (y := y) C.2.2.2.2.1 (mvT C.2.2.2.1 w1) (mvT C.2.2.2.1 w2) (mvT C.2.2.2.1 w3) (mvT C.2.2.2.1 w4) hy
    (backOf (Q := fun v h L => Qc v h ∧ Fr n0 L) (W := (rest.map fun v => v.category).sum) (hM E.2.1 []) C.2.2.2.1 w4 w3 hfr hlo) (g := mkF E.2.2.2.2.1 pc Ls st) rfl (hsz.trans C.2.2.1.symm) (argsL := argsL) (rest := rest) hlen hst (by show 2 * 0 + _ ≤ _; omega) (hb C.2.1 hd) (fun _ _ => ⟨rfl, hh, hc, hs⟩)
  dsimp only [Pt.U, Pt.locs, Pt.cells, Pt.slots] at X' l1 y1 z1 stp hQc
  subst l1 y1 z1
  obtain ⟨s₂, o, q1, q⟩ := H v _ hQc.1 T' _ X' rfl (Fr.app N hQc.2)
  exact ⟨s₂, o, stp _ q1, q⟩
theorem go_callC (C : Cx E Z own nm bytes mx rt) {i : Nat} {y : MethodName} {by' : ByteArray} {mx' : Nat} {rm : Room} {Qc : Option Value → Heap → Prop} {argsL : List Value} {a : Nat}
    (w1 : (Cond.methodLink own i y).before a0 Z = true) (w2 : (Cond.instanceMethod y).before a0 Z = true) (w3 : (Cond.initialized y.cls).before a0 Z = true) (w4 : (Cond.code y by' mx' none).before a0 Z = true) (hni : y.name = "<init>")
    (hM : Met Z y by' mx' none rm (.ref a :: argsL).toArray h n0 Qc) (hd : decode bytes pc = .ok (.invokespecial i, 3)) (hsz : Ls.size = mx) (hst : st = argsL.reverse ++ .ref a :: rest)
    (hlen : ∀ sig, parseMethodDescriptor y.desc = some sig → argsL.length = sig.parameters.length) (hy : y.cls ≠ "java/lang/invoke/MethodHandle" ∧ y.cls ≠ "java/lang/invoke/VarHandle")
    (hfr : rm.frames + 1 ≤ R.frames) (W : Nat) (hW : (rest.map fun v => v.category).sum = W) (hlo : W + (mx' + 11) + rm.locals ≤ R.locals) {k' n' : Nat} (hk' : k + rm.cells = k') (hn' : n + rm.slots = n') (hc : k' ≤ R.cells) (hs : n' ≤ R.slots) (hp : pc + 3 = pc')
    (H : ∀ v h', Qc v h' → Go E R n0 Q h' k' n' pc' Ls (v.toList ++ rest)) : Go E R n0 Q h k n pc Ls st := fun T locs X hh N => by
  subst hp hW hk' hn'
  obtain ⟨v, vm, ⟨T', L', k', n'⟩, -, X', ⟨Lc, hQc, l1, y1, z1⟩, stp⟩ := X.specialBack C.1 (y := y) hni C.2.2.2.2.1 (mvT C.2.2.2.1 w1) (mvT C.2.2.2.1 w2) (mvT C.2.2.2.1 w4) hy
    (backOf (Q := fun v h L => Qc v h ∧ Fr n0 L) (W := (rest.map fun v => v.category).sum) (hM E.2.1 []) C.2.2.2.1 w4 w3 hfr hlo) (g := mkF E.2.2.2.2.1 pc Ls st) rfl (hsz.trans C.2.2.1.symm) (Steps.refl _) (a := a) (argsL := argsL) (rest := rest) hlen hst (by show 2 * 0 + _ ≤ _; omega) (hb C.2.1 hd) (fun _ _ => ⟨rfl, hh, hc, hs⟩)
  dsimp only [Pt.U, Pt.locs, Pt.cells, Pt.slots] at X' l1 y1 z1 stp hQc
  subst l1 y1 z1
  obtain ⟨s₂, o, q1, q⟩ := H v _ hQc.1 T' _ X' rfl (Fr.app N hQc.2)
  exact ⟨s₂, o, stp.trans q1, q⟩
theorem go_callV (C : Cx E Z own nm bytes mx rt) {i : Nat} {y : MethodName} {by' : ByteArray} {mx' : Nat} {rt' : Option FieldType} {rm : Room} {Qc : Option Value → Heap → Prop} {argsL : List Value} {a : Nat} {K : String}
    (w1 : (Cond.methodLink own i y).before a0 Z = true) (w2 : (Cond.declares y).before a0 Z = true) (w3 : (Cond.selects K y y).before a0 Z = true) (w4 : (Cond.instanceMethod y).before a0 Z = true) (w5 : (Cond.initialized y.cls).before a0 Z = true) (w6 : (Cond.code y by' mx' rt').before a0 Z = true)
    (hE : Exa Z h a K) (hM : Met Z y by' mx' rt' rm (.ref a :: argsL).toArray h n0 Qc) (hd : decode bytes pc = .ok (.invokevirtual i, 3)) (hsz : Ls.size = mx) (hst : st = argsL.reverse ++ .ref a :: rest)
    (hlen : ∀ sig, parseMethodDescriptor y.desc = some sig → argsL.length = sig.parameters.length) (hy : y.cls ≠ "java/lang/invoke/MethodHandle" ∧ y.cls ≠ "java/lang/invoke/VarHandle")
    (hfr : rm.frames + 1 ≤ R.frames) (W : Nat) (hW : (rest.map fun v => v.category).sum = W) (hlo : W + (mx' + 11) + rm.locals ≤ R.locals) {k' n' : Nat} (hk' : k + rm.cells = k') (hn' : n + rm.slots = n') (hc : k' ≤ R.cells) (hs : n' ≤ R.slots) (hp : pc + 3 = pc')
    (H : ∀ v h', Qc v h' → Go E R n0 Q h' k' n' pc' Ls (v.toList ++ rest)) : Go E R n0 Q h k n pc Ls st := fun T locs X hh N => by
  subst hp hW hk' hn'
  obtain ⟨cq, kq, qa, qb, qc⟩ := isOf C.2.2.2.1 hh hE
  obtain ⟨v, vm, ⟨T', L', k', n'⟩, -, X', ⟨Lc, hQc, l1, y1, z1⟩, stp⟩ := X.virtualBack C.1 (y := y) (z := y) C.2.2.2.2.1 (mvT C.2.2.2.1 w1) (mvT C.2.2.2.1 w2) (notFace_of_selects (args := #[]) (mvT C.2.2.2.1 w3)) (mvT C.2.2.2.1 w3) (mvT C.2.2.2.1 w4) hy
    (backOf (Q := fun v h L => Qc v h ∧ Fr n0 L) (W := (rest.map fun v => v.category).sum) (hM E.2.1 []) C.2.2.2.1 w6 w5 hfr hlo) qa qc (g := mkF E.2.2.2.2.1 pc Ls st) rfl (hsz.trans C.2.2.1.symm) (Steps.refl _) (argsL := argsL) (rest := rest) hlen hst (by show 2 * 0 + _ ≤ _; omega) (hb C.2.1 hd) (fun _ _ => ⟨rfl, hh, hc, hs⟩)
  dsimp only [Pt.U, Pt.locs, Pt.cells, Pt.slots] at X' l1 y1 z1 stp hQc
  subst l1 y1 z1
  obtain ⟨s₂, o, q1, q⟩ := H v _ hQc.1 T' _ X' rfl (Fr.app N hQc.2)
  exact ⟨s₂, o, stp.trans q1, q⟩
/-! objects and fields -/
theorem go_newO (C : Cx E Z own nm bytes mx rt) {i cnt : Nat} {K : String} (w1 : (Cond.classLink own i K).before a0 Z = true) (w2 : (Cond.instantiable K cnt).before a0 Z = true) (w3 : (Cond.initialized K).before a0 Z = true) (hd : decode bytes pc = .ok (.new i, 3)) {k' n' : Nat} (hk' : k + 1 = k') (hn' : n + cnt = n') (hc : k' ≤ R.cells) (hs : n' ≤ R.slots) (hp : pc + 3 = pc')
    (H : ∀ h', Ext h h' → Exa Z h' h.size K → (∀ {O f d : String} {ty : FieldType}, Laid Z a0 K O f d → parseFieldDescriptor d = some ty → Fld Z h' h.size O f d (defaultValue ty)) → Go E R n0 Q h' k' n' pc' Ls (.ref h.size :: st)) : Go E R n0 Q h k n pc Ls st := fun T locs X hh N => by
  subst hp hk' hn'
  obtain ⟨T', h', X', e', e2, A2, D2, -, stp⟩ := newO X C.1 C.2.2.2.1 C.2.2.2.2.1 w1 w2 w3 hh (g := mkF E.2.2.2.2.1 pc Ls st) rfl (hb C.2.1 hd) hc hs
  obtain ⟨s₂, o, q1, q⟩ := H h' e2 A2 D2 T' _ X' e' N
  exact ⟨s₂, o, stp _ q1, q⟩
theorem go_getF (C : Cx E Z own nm bytes mx rt) {i : Nat} {a : Nat} {O f d : String} {v : Value} (w1 : (Cond.fieldLink own i O f d).before a0 Z = true) (F : Fld Z h a O f d v) (hd : decode bytes pc = .ok (.getfield i, 3)) (hp : pc + 3 = pc') (H : Go E R n0 Q h k n pc' Ls (v :: st)) : Go E R n0 Q h k n pc Ls (.ref a :: st) := fun T locs X hh N => by
  subst hp
  obtain ⟨T', X', e', stp⟩ := getF X C.1 C.2.2.2.1 C.2.2.2.2.1 (host := "") (Or.inl w1) Via.refl hh F (g := mkF E.2.2.2.2.1 pc Ls (.ref a :: st)) rfl rfl (hb C.2.1 hd)
  obtain ⟨s₂, o, q1, q⟩ := H T' _ X' e' N
  exact ⟨s₂, o, stp _ q1, q⟩
theorem go_putF (C : Cx E Z own nm bytes mx rt) {i kk : Nat} {a : Nat} {O f d K : String} {v old : Value} {ty : FieldType} (w1 : (Cond.fieldLink own i O f d).before a0 Z = true) (F : Fld Z h a O f d old) (A : Exa Z h a K) (L : (Cond.lays K O f d).before a0 Z = true ∨ ((Cond.laysFinal K O f d).before a0 Z = true ∧ own = O ∧ nm = "<init>")) (wi : (Cond.instantiable K kk).before a0 Z = true)
    (hty : parseFieldDescriptor d = some ty) (hnw : narrow ty v = v) (hf : fits ty v = true) (ge : n0 ≤ a) (hd : decode bytes pc = .ok (.putfield i, 3)) (hp : pc + 3 = pc') (H : ∀ h', Wr h h' a (Jvm.RoadKit.slotOf Z O f d) v → Go E R n0 Q h' k n pc' Ls st) : Go E R n0 Q h k n pc Ls (v :: .ref a :: st) := fun T locs X hh N => by
  subst hp
  obtain ⟨T', h', X', e', W, stp⟩ := putF X C.1 C.2.2.2.1 C.2.2.2.2.1 (host := "") (Or.inl w1) Via.refl hh F A (L.imp id fun q => ⟨q.1, q.2.1, C.2.2.2.2.2.2.2.trans q.2.2⟩) wi hty hnw hf (g := mkF E.2.2.2.2.1 pc Ls (v :: .ref a :: st)) rfl rfl (hb C.2.1 hd)
  obtain ⟨s₂, o, q1, q⟩ := H h' W T' _ X' e' (Fr.snoc X' N ge)
  exact ⟨s₂, o, stp _ q1, q⟩
theorem go_getS (C : Cx E Z own nm bytes mx rt) {i : Nat} {O f d : String} {v : Value} (w1 : (Cond.fieldLink own i O f d).before a0 Z = true) (F : Sta Z h O f d v) (hd : decode bytes pc = .ok (.getstatic i, 3)) (hp : pc + 3 = pc') (H : Go E R n0 Q h k n pc' Ls (v :: st)) : Go E R n0 Q h k n pc Ls st := fun T locs X hh N => by
  subst hp
  obtain ⟨T', X', e', stp⟩ := getS X C.1 C.2.2.2.1 C.2.2.2.2.1 (host := "") w1 Via.refl hh F (g := mkF E.2.2.2.2.1 pc Ls st) rfl (hb C.2.1 hd)
  obtain ⟨s₂, o, q1, q⟩ := H T' _ X' e' N
  exact ⟨s₂, o, stp _ q1, q⟩
theorem sta_keep {h' : Heap} {O f d : String} {v : Value} {ws : List Nat} (F : Sta Z h O f d v) (K : Keep h h' ws) (q : ∀ x ∈ ws, ∃ D, Exa Z h x D) : Sta Z h' O f d v := by
  obtain ⟨cf, i, k, f, st, cell, h1, h2, h3, h4, h5, h6, h7⟩ := F
  refine ⟨cf, i, k, f, st, cell, h1, h2, h3, h4, K.2.1 st cell h5 (fun hm => ?_), h6, h7⟩
  obtain ⟨D, c, k', e1, -, -, e4, -⟩ := q st hm
  cases e1.symm.trans h5
  rw [h6] at e4; cases e4
/-! arrays -/
theorem go_newP (C : Cx E Z own nm bytes mx rt) {aty : ArrayType} {z : Int32} {cap : Nat} (w1 : (Cond.arrayClass (newarray.typeOf aty)).before a0 Z = true) (hd : decode bytes pc = .ok (.newarray aty, 2)) (hn : ¬ z < 0) (hcap : z.toNatClampNeg ≤ cap) (hb8 : cap * 8 ≤ 536870912) {k' n' : Nat} (hk' : k + 1 = k') (hn' : n + cap = n') (hc : k' ≤ R.cells) (hs : n' ≤ R.slots) (hp : pc + 2 = pc')
    (H : ∀ h' cA, Ext h h' → Arr Z h' h.size (newA cA (newarray.typeOf aty) z) (newarray.typeOf aty) → Go E R n0 Q h' k' n' pc' Ls (.ref h.size :: st)) : Go E R n0 Q h k n pc Ls (.int z :: st) := fun T locs X hh N => by
  subst hp hk' hn'
  obtain ⟨T', h', cA, X', e', e2, A2, stp⟩ := newP X C.1 C.2.2.2.1 w1 hh (g := mkF E.2.2.2.2.1 pc Ls (.int z :: st)) rfl (hb C.2.1 hd) rfl hn hcap hb8 hc hs
  obtain ⟨s₂, o, q1, q⟩ := H h' cA e2 A2 T' _ X' e' N
  exact ⟨s₂, o, stp _ q1, q⟩
/-- an array of ints (or bytes, or booleans) by its list -/
def Ai (Z : State) (h : Heap) (a : Nat) (ty : FieldType) (xs : List Int32) : Prop := ∃ c : Cell, Arr Z h a c ty ∧ c.slots = (xs.map Value.int).toArray ∧ xs.length < 2 ^ 31
theorem Ai.lt {a : Nat} {ty : FieldType} {xs : List Int32} (F : Ai Z h a ty xs) : a < h.size := by obtain ⟨c, A, -⟩ := F; exact A.lt
theorem Ai.ext {h' : Heap} {a : Nat} {ty : FieldType} {xs : List Int32} (F : Ai Z h a ty xs) (e : Ext h h') : Ai Z h' a ty xs := by obtain ⟨c, A, r⟩ := F; exact ⟨c, A.ext e, r⟩
theorem Ai.other {h' : Heap} {a b : Nat} {sl : Nat} {v : Value} {ty : FieldType} {xs : List Int32} (F : Ai Z h b ty xs) (W : Wr h h' a sl v) (q : b ≠ a) : Ai Z h' b ty xs := by obtain ⟨c, A, r⟩ := F; exact ⟨c, A.other W q, r⟩
theorem Ai.keep {h' : Heap} {a : Nat} {ws : List Nat} {ty : FieldType} {xs : List Int32} (F : Ai Z h a ty xs) (K : Keep h h' ws) (q : a ∉ ws) : Ai Z h' a ty xs := by obtain ⟨c, A, r⟩ := F; exact ⟨c, ⟨K.2.1 a c A.1 q, A.2⟩, r⟩
theorem Ai.set {h' : Heap} {a : Nat} {i : Nat} {v : Int32} {ty : FieldType} {xs : List Int32} (F : Ai Z h a ty xs) (W : Wr h h' a i (.int v)) : Ai Z h' a ty (xs.set i v) := by
  obtain ⟨c, A, r, q⟩ := F
  refine ⟨_, A.same W, ?_, by simpa using q⟩
  show c.slots.setIfInBounds i (.int v) = _
  rw [r]; apply Array.toList_inj.mp; simp [List.map_set]
theorem Ai.new {cA : ClassId} {a : Nat} {z : Int32} {ty : FieldType} (A : Arr Z h a (newA cA ty z) ty) (hz : ¬ z < 0) (hd : defaultValue ty = .int 0) : Ai Z h a ty (List.replicate z.toNatClampNeg 0) := by
  refine ⟨_, A, ?_, by simpa using (back32 hz).2⟩
  show Array.replicate z.toNatClampNeg (defaultValue ty) = _
  rw [hd]; apply Array.toList_inj.mp; simp
theorem Ai.bound {c : Cell} {xs : List Int32} {j : Int32} (e : c.slots = (xs.map Value.int).toArray) (h0 : 0 ≤ j.toInt) (h1 : j.toInt < xs.length) : ¬ (j < 0 ∨ c.slots.size ≤ j.toNatClampNeg) := by
  rw [e]; simp only [List.size_toArray, List.length_map, Int32.lt_iff_toInt_lt, Int32.toNatClampNeg, Int32.reduceToInt]; omega
theorem go_alen (C : Cx E Z own nm bytes mx rt) {a : Nat} {ty : FieldType} {xs : List Int32} {z : Int32} (F : Ai Z h a ty xs) (hd : decode bytes pc = .ok (.arraylength, 1)) (hz : xs.length.toInt32 = z) (hp : pc + 1 = pc') (H : Go E R n0 Q h k n pc' Ls (.int z :: st)) : Go E R n0 Q h k n pc Ls (.ref a :: st) := by
  subst hp hz
  obtain ⟨c, A, r, q⟩ := F
  refine go_step H fun T locs t X hh s2 => X.arraylength C.1 (by rw [hh]; exact A.1) (State.isArrayOf_alike C.2.2.2.1.alike A.2.1) (g := mkF E.2.2.2.2.1 pc Ls (.ref a :: st)) rfl rfl (hb C.2.1 hd) t ?_
  rw [r]; simpa using s2
theorem ai_get {xs : List Int32} {j v : Int32} {i : Nat} (hi : j.toInt = (i : Int)) (hv : xs[i]? = some v) : ((xs.map Value.int).toArray)[j.toNatClampNeg]? = some (.int v) := by
  have e : j.toNatClampNeg = i := by show j.toInt.toNat = i; omega
  rw [e]; simp [hv]
theorem go_iaload (C : Cx E Z own nm bytes mx rt) {a : Nat} {xs : List Int32} {j v : Int32} (F : Ai Z h a .int xs) {i : Nat} (hi : j.toInt = (i : Int)) (hv : xs[i]? = some v) (hd : decode bytes pc = .ok (.iaload, 1)) (hp : pc + 1 = pc') (H : Go E R n0 Q h k n pc' Ls (.int v :: st)) : Go E R n0 Q h k n pc Ls (.int j :: .ref a :: st) := by
  subst hp
  obtain ⟨c, A, r, q⟩ := F
  have hb1 := Ai.bound (j := j) r (by omega) (by have := (List.getElem?_eq_some_iff.mp hv).1; omega)
  exact go_step H fun T locs t X hh s2 => X.iaload C.1 (by rw [hh]; exact A.1) (State.isArrayOf_alike C.2.2.2.1.alike A.2.1) A.2.2 hb1 (by rw [r]; exact ai_get hi hv) (g := mkF E.2.2.2.2.1 pc Ls (.int j :: .ref a :: st)) rfl rfl (hb C.2.1 hd) t s2
theorem go_baloadB (C : Cx E Z own nm bytes mx rt) {a : Nat} {xs : List Int32} {j v : Int32} (F : Ai Z h a .byte xs) {i : Nat} (hi : j.toInt = (i : Int)) (hv : xs[i]? = some v) (hd : decode bytes pc = .ok (.baload, 1)) (hp : pc + 1 = pc') (H : Go E R n0 Q h k n pc' Ls (.int v :: st)) : Go E R n0 Q h k n pc Ls (.int j :: .ref a :: st) := by
  subst hp
  obtain ⟨c, A, r, q⟩ := F
  have hb1 := Ai.bound (j := j) r (by omega) (by have := (List.getElem?_eq_some_iff.mp hv).1; omega)
  exact go_step H fun T locs t X hh s2 => X.baloadBytes C.1 (by rw [hh]; exact A.1) (State.isArrayOf_alike C.2.2.2.1.alike A.2.1) A.2.2 hb1 (by rw [r]; exact ai_get hi hv) (g := mkF E.2.2.2.2.1 pc Ls (.int j :: .ref a :: st)) rfl rfl (hb C.2.1 hd) t s2
theorem go_baloadZ (C : Cx E Z own nm bytes mx rt) {a : Nat} {xs : List Int32} {j v : Int32} (F : Ai Z h a .boolean xs) {i : Nat} (hi : j.toInt = (i : Int)) (hv : xs[i]? = some v) (hd : decode bytes pc = .ok (.baload, 1)) (hp : pc + 1 = pc') (H : Go E R n0 Q h k n pc' Ls (.int v :: st)) : Go E R n0 Q h k n pc Ls (.int j :: .ref a :: st) := by
  subst hp
  obtain ⟨c, A, r, q⟩ := F
  have hb1 := Ai.bound (j := j) r (by omega) (by have := (List.getElem?_eq_some_iff.mp hv).1; omega)
  exact go_step H fun T locs t X hh s2 => X.baloadBooleans C.1 (by rw [hh]; exact A.1) (State.isArrayOf_alike C.2.2.2.1.alike A.2.1) A.2.2 hb1 (by rw [r]; exact ai_get hi hv) (g := mkF E.2.2.2.2.1 pc Ls (.int j :: .ref a :: st)) rfl rfl (hb C.2.1 hd) t s2
theorem go_iastore (C : Cx E Z own nm bytes mx rt) {a : Nat} {xs : List Int32} {j v : Int32} (F : Ai Z h a .int xs) {i : Nat} {xs' : List Int32} (hi : j.toInt = (i : Int)) (h1 : i < xs.length) (hxs : xs.set i v = xs') (ge : n0 ≤ a) (hd : decode bytes pc = .ok (.iastore, 1)) (hp : pc + 1 = pc')
    (H : ∀ h', Wr h h' a i (.int v) → Ai Z h' a .int xs' → Go E R n0 Q h' k n pc' Ls st) : Go E R n0 Q h k n pc Ls (.int v :: .int j :: .ref a :: st) := fun T locs X hh N => by
  subst hp
  have F' := F
  obtain ⟨c, A, r, q⟩ := F
  obtain ⟨T', h', X', e', W, stp⟩ := stI X C.1 C.2.2.2.1 hh A (Ai.bound r (by omega) (by omega)) (g := mkF E.2.2.2.2.1 pc Ls (.int v :: .int j :: .ref a :: st)) rfl rfl (hb C.2.1 hd)
  have ei : j.toNatClampNeg = i := by show j.toInt.toNat = i; omega
  rw [ei] at W
  obtain ⟨s₂, o, q1, q⟩ := H h' W (hxs ▸ F'.set W) T' _ X' e' (Fr.snoc X' N ge)
  exact ⟨s₂, o, stp _ q1, q⟩
theorem go_bastoreZ (C : Cx E Z own nm bytes mx rt) {a : Nat} {xs : List Int32} {j v : Int32} (F : Ai Z h a .boolean xs) {i : Nat} {xs' : List Int32} (hi : j.toInt = (i : Int)) (h1 : i < xs.length) (hxs : xs.set i v = xs') (hv : v = 0 ∨ v = 1) (ge : n0 ≤ a) (hd : decode bytes pc = .ok (.bastore, 1)) (hp : pc + 1 = pc')
    (H : ∀ h', Wr h h' a i (.int v) → Ai Z h' a .boolean xs' → Go E R n0 Q h' k n pc' Ls st) : Go E R n0 Q h k n pc Ls (.int v :: .int j :: .ref a :: st) := fun T locs X hh N => by
  subst hp
  have F' := F
  have nv : nar .boolean v = v := by rcases hv with rfl | rfl <;> rfl
  obtain ⟨c, A, r, q⟩ := F
  obtain ⟨T', h', X', e', W, stp⟩ := stZ X C.1 C.2.2.2.1 hh A (Ai.bound r (by omega) (by omega)) (g := mkF E.2.2.2.2.1 pc Ls (.int v :: .int j :: .ref a :: st)) rfl rfl (hb C.2.1 hd)
  have ei : j.toNatClampNeg = i := by show j.toInt.toNat = i; omega
  rw [ei] at W
  rw [nv] at W
  obtain ⟨s₂, o, q1, q⟩ := H h' W (hxs ▸ F'.set W) T' _ X' e' (Fr.snoc X' N ge)
  exact ⟨s₂, o, stp _ q1, q⟩
theorem go_bastoreB (C : Cx E Z own nm bytes mx rt) {a : Nat} {xs : List Int32} {j v : Int32} (F : Ai Z h a .byte xs) {i : Nat} {xs' : List Int32} (hi : j.toInt = (i : Int)) (h1 : i < xs.length) (hxs : xs.set i v = xs') (hv : nar .byte v = v) (ge : n0 ≤ a) (hd : decode bytes pc = .ok (.bastore, 1)) (hp : pc + 1 = pc')
    (H : ∀ h', Wr h h' a i (.int v) → Ai Z h' a .byte xs' → Go E R n0 Q h' k n pc' Ls st) : Go E R n0 Q h k n pc Ls (.int v :: .int j :: .ref a :: st) := fun T locs X hh N => by
  subst hp
  have F' := F
  obtain ⟨c, A, r, q⟩ := F
  obtain ⟨T', h', X', e', W, stp⟩ := stB X C.1 C.2.2.2.1 hh A (Ai.bound r (by omega) (by omega)) (g := mkF E.2.2.2.2.1 pc Ls (.int v :: .int j :: .ref a :: st)) rfl rfl (hb C.2.1 hd)
  have ei : j.toNatClampNeg = i := by show j.toInt.toNat = i; omega
  rw [ei] at W
  rw [hv] at W
  obtain ⟨s₂, o, q1, q⟩ := H h' W (hxs ▸ F'.set W) T' _ X' e' (Fr.snoc X' N ge)
  exact ⟨s₂, o, stp _ q1, q⟩
theorem go_initO (C : Cx E Z own nm bytes mx rt) {i : Nat} {a : Nat} (w1 : (Cond.methodLink own i Lib.objectInit).before a0 Z = true) (w2 : (Cond.instanceMethod Lib.objectInit).before a0 Z = true) (w3 : (Cond.code Lib.objectInit object_method_1_code 1 none).before a0 Z = true)
    (hd : decode bytes pc = .ok (.invokespecial i, 3)) (hsz : Ls.size = mx) (hf : 1 ≤ R.frames) (W : Nat) (hW : (st.map fun v => v.category).sum = W) (hlo : W + 12 ≤ R.locals) (hp : pc + 3 = pc') (H : Go E R n0 Q h k n pc' Ls st) : Go E R n0 Q h k n pc Ls (.ref a :: st) := fun T locs X hh N => by
  subst hp hW
  obtain ⟨T', X', e', stp⟩ := initO X C.1 C.2.2.2.1 C.2.2.2.2.1 w1 w2 w3 hh (g := mkF E.2.2.2.2.1 pc Ls (.ref a :: st)) rfl (hsz.trans C.2.2.1.symm) rfl (hb C.2.1 hd) hf (W := (st.map fun v => v.category).sum) (by show 2 * 0 + _ ≤ _; omega) hlo
  obtain ⟨s₂, o, q1, q⟩ := H T' _ X' e' N
  exact ⟨s₂, o, stp _ q1, q⟩
theorem go_getFV (C : Cx E Z own nm bytes mx rt) {i : Nat} {a : Nat} {R0 O f d : String} {v : Value} (w1 : (Cond.fieldLink own i R0 f d).before a0 Z = true) (via : Via Z R0 O f d) (F : Fld Z h a O f d v) (hd : decode bytes pc = .ok (.getfield i, 3)) (hp : pc + 3 = pc') (H : Go E R n0 Q h k n pc' Ls (v :: st)) : Go E R n0 Q h k n pc Ls (.ref a :: st) := fun T locs X hh N => by
  subst hp
  obtain ⟨T', X', e', stp⟩ := getF X C.1 C.2.2.2.1 C.2.2.2.2.1 (host := "") (Or.inl w1) via hh F (g := mkF E.2.2.2.2.1 pc Ls (.ref a :: st)) rfl rfl (hb C.2.1 hd)
  obtain ⟨s₂, o, q1, q⟩ := H T' _ X' e' N
  exact ⟨s₂, o, stp _ q1, q⟩
theorem go_putFV (C : Cx E Z own nm bytes mx rt) {i kk : Nat} {a : Nat} {R0 O f d K : String} {v old : Value} {ty : FieldType} (w1 : (Cond.fieldLink own i R0 f d).before a0 Z = true) (via : Via Z R0 O f d) (F : Fld Z h a O f d old) (A : Exa Z h a K) (L : (Cond.lays K O f d).before a0 Z = true ∨ ((Cond.laysFinal K O f d).before a0 Z = true ∧ own = O ∧ nm = "<init>")) (wi : (Cond.instantiable K kk).before a0 Z = true)
    (hty : parseFieldDescriptor d = some ty) (hnw : narrow ty v = v) (hf : fits ty v = true) (ge : n0 ≤ a) (hd : decode bytes pc = .ok (.putfield i, 3)) (hp : pc + 3 = pc') (H : ∀ h', Wr h h' a (Jvm.RoadKit.slotOf Z O f d) v → Go E R n0 Q h' k n pc' Ls st) : Go E R n0 Q h k n pc Ls (v :: .ref a :: st) := fun T locs X hh N => by
  subst hp
  obtain ⟨T', h', X', e', W, stp⟩ := putF X C.1 C.2.2.2.1 C.2.2.2.2.1 (host := "") (Or.inl w1) via hh F A (L.imp id fun q => ⟨q.1, q.2.1, C.2.2.2.2.2.2.2.trans q.2.2⟩) wi hty hnw hf (g := mkF E.2.2.2.2.1 pc Ls (v :: .ref a :: st)) rfl rfl (hb C.2.1 hd)
  obtain ⟨s₂, o, q1, q⟩ := H h' W T' _ X' e' (Fr.snoc X' N ge)
  exact ⟨s₂, o, stp _ q1, q⟩
theorem go_alenA (C : Cx E Z own nm bytes mx rt) {a : Nat} {ty : FieldType} {cl : Cell} {z : Int32} (A : Arr Z h a cl ty) (hz : cl.slots.size.toInt32 = z) (hd : decode bytes pc = .ok (.arraylength, 1)) (hp : pc + 1 = pc') (H : Go E R n0 Q h k n pc' Ls (.int z :: st)) : Go E R n0 Q h k n pc Ls (.ref a :: st) := by
  subst hp hz
  exact go_step H fun T locs t X hh s2 => X.arraylength C.1 (by rw [hh]; exact A.1) (State.isArrayOf_alike C.2.2.2.1.alike A.2.1) (g := mkF E.2.2.2.2.1 pc Ls (.ref a :: st)) rfl rfl (hb C.2.1 hd) t s2
theorem go_newR (C : Cx E Z own nm bytes mx rt) {i : Nat} {K : String} {z : Int32} {cap : Nat} (w1 : (Cond.classLink own i K).before a0 Z = true) (w2 : (Cond.arrayOver (.object K)).before a0 Z = true) (hd : decode bytes pc = .ok (.anewarray i, 3)) (hn : ¬ z < 0) (hcap : z.toNatClampNeg ≤ cap) (hb8 : cap * 8 ≤ 536870912) {k' n' : Nat} (hk' : k + 1 = k') (hn' : n + cap = n') (hc : k' ≤ R.cells) (hs : n' ≤ R.slots) (hp : pc + 3 = pc')
    (H : ∀ h' cA, Ext h h' → Arr Z h' h.size (newA cA (.object K) z) (.object K) → Ovr Z cA K → Go E R n0 Q h' k' n' pc' Ls (.ref h.size :: st)) : Go E R n0 Q h k n pc Ls (.int z :: st) := fun T locs X hh N => by
  subst hp hk' hn'
  obtain ⟨T', h', cA, X', e', e2, A2, O2, stp⟩ := newR X C.1 C.2.2.2.1 C.2.2.2.2.1 w1 w2 hh (g := mkF E.2.2.2.2.1 pc Ls (.int z :: st)) rfl (hb C.2.1 hd) rfl hn hcap hb8 hc hs
  obtain ⟨s₂, o, q1, q⟩ := H h' cA e2 A2 O2 T' _ X' e' N
  exact ⟨s₂, o, stp _ q1, q⟩
theorem go_aastore (C : Cx E Z own nm bytes mx rt) {a : Nat} {cl : Cell} {ty : FieldType} {j : Int32} {v : Value} (A : Arr Z h a cl ty) (hj : ¬ (j < 0 ∨ cl.slots.size ≤ j.toNatClampNeg)) (hty : ty.isReference = true) (F : Sto Z h a v) (ge : n0 ≤ a) (hd : decode bytes pc = .ok (.aastore, 1)) (hp : pc + 1 = pc')
    (H : ∀ h', Wr h h' a j.toNatClampNeg v → Go E R n0 Q h' k n pc' Ls st) : Go E R n0 Q h k n pc Ls (v :: .int j :: .ref a :: st) := fun T locs X hh N => by
  subst hp
  obtain ⟨T', h', X', e', W, stp⟩ := stR X C.1 C.2.2.2.1 hh A hj hty F (g := mkF E.2.2.2.2.1 pc Ls (v :: .int j :: .ref a :: st)) rfl rfl (hb C.2.1 hd)
  obtain ⟨s₂, o, q1, q⟩ := H h' W T' _ X' e' (Fr.snoc X' N ge)
  exact ⟨s₂, o, stp _ q1, q⟩
theorem go_acY (C : Cx E Z own nm bytes mx rt) {cd : ClassFile.ACond} {x y : Value} {o : Int} (hd : decode bytes pc = .ok (.if_acmp cd o, 3)) (hx : x.isRef = true) (hy : y.isRef = true) (hc : XT.acmp cd x y = true) (ho : 0 ≤ (pc : Int) + o) (hp : ((pc : Int) + o).toNat = pc') (H : Go E R n0 Q h k n pc' Ls st) : Go E R n0 Q h k n pc Ls (y :: x :: st) :=
  go_step H fun T locs t X _ q => XT.acmpYes X.here C.1 rfl rfl (hb C.2.1 hd) rfl hx hy hc ho hp q
theorem go_callI (C : Cx E Z own nm bytes mx rt) {i cn : Nat} {y z : MethodName} {by' : ByteArray} {mx' : Nat} {rt' : Option FieldType} {rm : Room} {Qc : Option Value → Heap → Prop} {argsL : List Value} {a : Nat} {K : String}
    (w1 : (Cond.methodLink own i y).before a0 Z = true) (w2 : (Cond.declares y).before a0 Z = true) (w3 : (Cond.interfaceMethod y.cls y.cls y.name y.desc).before a0 Z = true) (w4 : (Cond.selects K y z).before a0 Z = true) (w5 : (Cond.instanceMethod z).before a0 Z = true) (w6 : (Cond.publicMethod z).before a0 Z = true) (w7 : (Cond.unhidden K y.name y.desc).before a0 Z = true) (w8 : (Cond.castable K y.cls).before a0 Z = true) (w9 : (Cond.initialized z.cls).before a0 Z = true) (w10 : (Cond.code z by' mx' rt').before a0 Z = true) (hfc : ((Cond.interfaceMethod y.cls y.cls y.name y.desc).onTables && (Cond.interfaceMethod y.cls y.cls y.name y.desc).keepsFace) = true)
    (hE : Exa Z h a K) (hM : Met Z z by' mx' rt' rm (.ref a :: argsL).toArray h n0 Qc) (hd : decode bytes pc = .ok (.invokeinterface i cn, 5)) (hsz : Ls.size = mx) (hst : st = argsL.reverse ++ .ref a :: rest)
    (hlen : ∀ sig, parseMethodDescriptor y.desc = some sig → argsL.length = sig.parameters.length) (hy : y.cls ≠ "java/lang/invoke/MethodHandle" ∧ y.cls ≠ "java/lang/invoke/VarHandle")
    (hfr : rm.frames + 1 ≤ R.frames) (W : Nat) (hW : (rest.map fun v => v.category).sum = W) (hlo : W + (mx' + 11) + rm.locals ≤ R.locals) {k' n' : Nat} (hk' : k + rm.cells = k') (hn' : n + rm.slots = n') (hc : k' ≤ R.cells) (hs : n' ≤ R.slots) (hp : pc + 5 = pc')
    (H : ∀ v h', Qc v h' → Go E R n0 Q h' k' n' pc' Ls (v.toList ++ rest)) : Go E R n0 Q h k n pc Ls st := fun T locs X hh N => by
  subst hp hW hk' hn'
  obtain ⟨cq, kq, qa, qb, qc⟩ := isOf C.2.2.2.1 hh hE
  obtain ⟨v, vm, ⟨T', L', k', n'⟩, -, X', ⟨Lc, hQc, l1, y1, z1⟩, stp⟩ := X.interfaceBack C.1 (xi := y) (y := z) C.2.2.2.2.1 (mvT C.2.2.2.1 w1) (mvT C.2.2.2.1 w2) (mvT C.2.2.2.1 w3 hfc) (mvT C.2.2.2.1 w4) (mvT C.2.2.2.1 w5) (mvT C.2.2.2.1 w6) (mvT C.2.2.2.1 w7) (mvT C.2.2.2.1 w8) hy
    (backOf (Q := fun v h L => Qc v h ∧ Fr n0 L) (W := (rest.map fun v => v.category).sum) (hM E.2.1 []) C.2.2.2.1 w10 w9 hfr hlo) qa qb qc (g := mkF E.2.2.2.2.1 pc Ls st) rfl (hsz.trans C.2.2.1.symm) (Steps.refl _) (argsL := argsL) (rest := rest) hlen hst (by show 2 * 0 + _ ≤ _; omega) (hb C.2.1 hd) (fun _ _ => ⟨rfl, hh, hc, hs⟩)
  dsimp only [Pt.U, Pt.locs, Pt.cells, Pt.slots] at X' l1 y1 z1 stp hQc
  subst l1 y1 z1
  obtain ⟨s₂, o, q1, q⟩ := H v _ hQc.1 T' _ X' rfl (Fr.app N hQc.2)
  exact ⟨s₂, o, stp.trans q1, q⟩
theorem go_callP (C : Cx E Z own nm bytes mx rt) {i : Nat} {y : MethodName} {by' : ByteArray} {mx' : Nat} {rt' : Option FieldType} {rm : Room} {Qc : Option Value → Heap → Prop} {argsL : List Value} {a : Nat} {kk : Nat}
    (w1 : (Cond.methodLink own i y).before a0 Z = true) (w2 : (Cond.privateMethod y).before a0 Z = true) (w4 : (Cond.instanceMethod y).before a0 Z = true) (w5 : (Cond.initialized y.cls).before a0 Z = true) (w6 : (Cond.code y by' mx' rt').before a0 Z = true) (w7 : (Cond.instantiable y.cls kk).before a0 Z = true)
    (hE : Exa Z h a y.cls) (hM : Met Z y by' mx' rt' rm (.ref a :: argsL).toArray h n0 Qc) (hd : decode bytes pc = .ok (.invokevirtual i, 3)) (hsz : Ls.size = mx) (hst : st = argsL.reverse ++ .ref a :: rest)
    (hlen : ∀ sig, parseMethodDescriptor y.desc = some sig → argsL.length = sig.parameters.length) (hy : y.cls ≠ "java/lang/invoke/MethodHandle" ∧ y.cls ≠ "java/lang/invoke/VarHandle")
    (hfr : rm.frames + 1 ≤ R.frames) (W : Nat) (hW : (rest.map fun v => v.category).sum = W) (hlo : W + (mx' + 11) + rm.locals ≤ R.locals) {k' n' : Nat} (hk' : k + rm.cells = k') (hn' : n + rm.slots = n') (hc : k' ≤ R.cells) (hs : n' ≤ R.slots) (hp : pc + 3 = pc')
    (H : ∀ v h', Qc v h' → Go E R n0 Q h' k' n' pc' Ls (v.toList ++ rest)) : Go E R n0 Q h k n pc Ls st := fun T locs X hh N => by
  subst hp hW hk' hn'
  obtain ⟨ca, ha1, ha2⟩ := hE.cell
  obtain ⟨c2, k2, i1, i2, i3, i4, -, -⟩ := Cond.instantiable_spec (mvT (args := #[]) C.2.2.2.1 w7)
  have hpriv : State.PrivateAt E.2.2.2.1 y := Cond.privateMethod_at (args := #[]) (mvP C.2.2.2.1 w2)
  have hsel : (Cond.selects y.cls y y).before E.2.2.2.2.2.1 E.2.2.2.1 = true := selects_self_of_private i1 i2 (Bool.or_eq_false_iff.mp i4).1 hpriv (mvT C.2.2.2.1 w4) hy
  obtain ⟨v, vm, ⟨T', L', k', n'⟩, -, X', ⟨Lc, hQc, l1, y1, z1⟩, stp⟩ := X.privateBack C.1 (y := y) C.2.2.2.2.1 (mvT C.2.2.2.1 w1) (mvT C.2.2.2.1 w4) hsel hpriv (mvT C.2.2.2.1 w6) hy
    (backOf (Q := fun v h L => Qc v h ∧ Fr n0 L) (W := (rest.map fun v => v.category).sum) (hM E.2.1 []) C.2.2.2.1 w6 w5 hfr hlo) (g := mkF E.2.2.2.2.1 pc Ls st) rfl (hsz.trans C.2.2.1.symm) (Steps.refl _) (a := a) (cell := ca) (by rw [hh]; exact ha1) ha2 (argsL := argsL) (rest := rest) hlen hst (by show 2 * 0 + _ ≤ _; omega) (hb C.2.1 hd) (fun _ _ => ⟨rfl, hh, hc, hs⟩)
  dsimp only [Pt.U, Pt.locs, Pt.cells, Pt.slots] at X' l1 y1 z1 stp hQc
  subst l1 y1 z1
  obtain ⟨s₂, o, q1, q⟩ := H v _ hQc.1 T' _ X' rfl (Fr.app N hQc.2)
  exact ⟨s₂, o, stp.trans q1, q⟩
end GoKit
theorem pn0 : plainName "java/util/ArrayList" = true := by first | (simp [plainName, overriddenIn]; done) | decide +kernel
theorem pn1 : plainName "java/util/AbstractList" = true := by first | (simp [plainName, overriddenIn]; done) | decide +kernel
theorem pn2 : plainName "java/util/AbstractCollection" = true := by first | (simp [plainName, overriddenIn]; done) | decide +kernel
theorem pn3 : plainName "com/example/langouste/langouste/quorum/Member" = true := by first | (simp [plainName, overriddenIn]; done) | decide +kernel
theorem pn4 : plainName "java/lang/Record" = true := by first | (simp [plainName, overriddenIn]; done) | decide +kernel
theorem pn5 : plainFor (⟨"java/lang/Math", "max", "(II)I"⟩ : MethodName) = true := by decide +kernel
theorem pn6 : plainName "com/example/langouste/langouste/quorum/Ensemble" = true := by first | (simp [plainName, overriddenIn]; done) | decide +kernel
theorem pn7 : plainName "com/example/langouste/langouste/quorum/EnsembleInitLimitMillisPinLaw" = true := by first | (simp [plainName, overriddenIn]; done) | decide +kernel
theorem pd0 : parseMethodDescriptor "()V" = some ⟨[], none⟩ := by decide +kernel
theorem pd1 : parseMethodDescriptor "(JLjava/net/InetSocketAddress;Ljava/net/InetSocketAddress;)V" = some ⟨[.long, (.object "java/net/InetSocketAddress"), (.object "java/net/InetSocketAddress")], none⟩ := by decide +kernel
theorem pd2 : parseMethodDescriptor "(Ljava/lang/Object;)Z" = some ⟨[(.object "java/lang/Object")], some .boolean⟩ := by decide +kernel
theorem pd3 : parseMethodDescriptor "(Ljava/lang/Object;[Ljava/lang/Object;I)V" = some ⟨[(.object "java/lang/Object"), (.array (.object "java/lang/Object")), .int], none⟩ := by decide +kernel
theorem pd4 : parseMethodDescriptor "()[Ljava/lang/Object;" = some ⟨[], some (.array (.object "java/lang/Object"))⟩ := by decide +kernel
theorem pd5 : parseMethodDescriptor "(I)[Ljava/lang/Object;" = some ⟨[.int], some (.array (.object "java/lang/Object"))⟩ := by decide +kernel
theorem pd6 : parseMethodDescriptor "(II)I" = some ⟨[.int, .int], some .int⟩ := by decide +kernel
theorem pd7 : parseMethodDescriptor "(JLjava/util/List;III)V" = some ⟨[.long, (.object "java/util/List"), .int, .int, .int], none⟩ := by decide +kernel
theorem pd8 : parseMethodDescriptor "()J" = some ⟨[], some .long⟩ := by decide +kernel
theorem pd9 : parseMethodDescriptor "(JIII)Z" = some ⟨[.long, .int, .int, .int], some .boolean⟩ := by decide +kernel
theorem d1_0 : decode jdk_38_method_2_code 0 = .ok (.aload_n 0, 1) := by decide +kernel
theorem d1_1 : decode jdk_38_method_2_code 1 = .ok (.invokespecial 1, 3) := by decide +kernel
theorem d1_4 : decode jdk_38_method_2_code 4 = .ok (.aload_n 0, 1) := by decide +kernel
theorem d1_5 : decode jdk_38_method_2_code 5 = .ok (.getstatic 39, 3) := by decide +kernel
theorem d1_8 : decode jdk_38_method_2_code 8 = .ok (.putfield 9, 3) := by decide +kernel
theorem d1_11 : decode jdk_38_method_2_code 11 = .ok (.return_, 1) := by decide +kernel
theorem d2_0 : decode jdk_39_method_1_code 0 = .ok (.aload_n 0, 1) := by decide +kernel
theorem d2_1 : decode jdk_39_method_1_code 1 = .ok (.invokespecial 1, 3) := by decide +kernel
theorem d2_4 : decode jdk_39_method_1_code 4 = .ok (.aload_n 0, 1) := by decide +kernel
theorem d2_5 : decode jdk_39_method_1_code 5 = .ok (.iconst 0, 1) := by decide +kernel
theorem d2_6 : decode jdk_39_method_1_code 6 = .ok (.putfield 7, 3) := by decide +kernel
theorem d2_9 : decode jdk_39_method_1_code 9 = .ok (.return_, 1) := by decide +kernel
theorem d3_0 : decode jdk_22_method_1_code 0 = .ok (.aload_n 0, 1) := by decide +kernel
theorem d3_1 : decode jdk_22_method_1_code 1 = .ok (.invokespecial 1, 3) := by decide +kernel
theorem d3_4 : decode jdk_22_method_1_code 4 = .ok (.return_, 1) := by decide +kernel
theorem d6_0 : decode jdk_30_method_1_code 0 = .ok (.aload_n 0, 1) := by decide +kernel
theorem d6_1 : decode jdk_30_method_1_code 1 = .ok (.invokespecial 1, 3) := by decide +kernel
theorem d6_4 : decode jdk_30_method_1_code 4 = .ok (.return_, 1) := by decide +kernel
theorem d12_0 : decode prog_29_method_1_code 0 = .ok (.aload_n 0, 1) := by decide +kernel
theorem d12_1 : decode prog_29_method_1_code 1 = .ok (.invokespecial 1, 3) := by decide +kernel
theorem d12_4 : decode prog_29_method_1_code 4 = .ok (.aload_n 0, 1) := by decide +kernel
theorem d12_5 : decode prog_29_method_1_code 5 = .ok (.lload_n 1, 1) := by decide +kernel
theorem d12_6 : decode prog_29_method_1_code 6 = .ok (.putfield 7, 3) := by decide +kernel
theorem d12_9 : decode prog_29_method_1_code 9 = .ok (.aload_n 0, 1) := by decide +kernel
theorem d12_10 : decode prog_29_method_1_code 10 = .ok (.aload_n 3, 1) := by decide +kernel
theorem d12_11 : decode prog_29_method_1_code 11 = .ok (.putfield 13, 3) := by decide +kernel
theorem d12_14 : decode prog_29_method_1_code 14 = .ok (.aload_n 0, 1) := by decide +kernel
theorem d12_15 : decode prog_29_method_1_code 15 = .ok (.iload 4, 2) := by decide +kernel
theorem d12_17 : decode prog_29_method_1_code 17 = .ok (.putfield 17, 3) := by decide +kernel
theorem d12_20 : decode prog_29_method_1_code 20 = .ok (.aload_n 0, 1) := by decide +kernel
theorem d12_21 : decode prog_29_method_1_code 21 = .ok (.iload 5, 2) := by decide +kernel
theorem d12_23 : decode prog_29_method_1_code 23 = .ok (.putfield 21, 3) := by decide +kernel
theorem d12_26 : decode prog_29_method_1_code 26 = .ok (.aload_n 0, 1) := by decide +kernel
theorem d12_27 : decode prog_29_method_1_code 27 = .ok (.iload 6, 2) := by decide +kernel
theorem d12_29 : decode prog_29_method_1_code 29 = .ok (.putfield 24, 3) := by decide +kernel
theorem d12_32 : decode prog_29_method_1_code 32 = .ok (.return_, 1) := by decide +kernel
theorem d13_0 : decode prog_29_method_4_code 0 = .ok (.aload_n 0, 1) := by decide +kernel
theorem d13_1 : decode prog_29_method_4_code 1 = .ok (.getfield 21, 3) := by decide +kernel
theorem d13_4 : decode prog_29_method_4_code 4 = .ok (.i2l, 1) := by decide +kernel
theorem d13_5 : decode prog_29_method_4_code 5 = .ok (.aload_n 0, 1) := by decide +kernel
theorem d13_6 : decode prog_29_method_4_code 6 = .ok (.getfield 17, 3) := by decide +kernel
theorem d13_9 : decode prog_29_method_4_code 9 = .ok (.i2l, 1) := by decide +kernel
theorem d13_10 : decode prog_29_method_4_code 10 = .ok (.lmul, 1) := by decide +kernel
theorem d13_11 : decode prog_29_method_4_code 11 = .ok (.lreturn, 1) := by decide +kernel
theorem d5_0 : decode prog_38_method_1_code 0 = .ok (.aload_n 0, 1) := by decide +kernel
theorem d5_1 : decode prog_38_method_1_code 1 = .ok (.invokespecial 1, 3) := by decide +kernel
theorem d5_4 : decode prog_38_method_1_code 4 = .ok (.aload_n 0, 1) := by decide +kernel
theorem d5_5 : decode prog_38_method_1_code 5 = .ok (.lload_n 1, 1) := by decide +kernel
theorem d5_6 : decode prog_38_method_1_code 6 = .ok (.putfield 7, 3) := by decide +kernel
theorem d5_9 : decode prog_38_method_1_code 9 = .ok (.aload_n 0, 1) := by decide +kernel
theorem d5_10 : decode prog_38_method_1_code 10 = .ok (.aload_n 3, 1) := by decide +kernel
theorem d5_11 : decode prog_38_method_1_code 11 = .ok (.putfield 13, 3) := by decide +kernel
theorem d5_14 : decode prog_38_method_1_code 14 = .ok (.aload_n 0, 1) := by decide +kernel
theorem d5_15 : decode prog_38_method_1_code 15 = .ok (.aload 4, 2) := by decide +kernel
theorem d5_17 : decode prog_38_method_1_code 17 = .ok (.putfield 17, 3) := by decide +kernel
theorem d5_20 : decode prog_38_method_1_code 20 = .ok (.return_, 1) := by decide +kernel
theorem d7_0 : decode jdk_38_method_25_code 0 = .ok (.aload_n 0, 1) := by decide +kernel
theorem d7_1 : decode jdk_38_method_25_code 1 = .ok (.dup, 1) := by decide +kernel
theorem d7_2 : decode jdk_38_method_25_code 2 = .ok (.getfield 63, 3) := by decide +kernel
theorem d7_5 : decode jdk_38_method_25_code 5 = .ok (.iconst 1, 1) := by decide +kernel
theorem d7_6 : decode jdk_38_method_25_code 6 = .ok (.iadd, 1) := by decide +kernel
theorem d7_7 : decode jdk_38_method_25_code 7 = .ok (.putfield 63, 3) := by decide +kernel
theorem d7_10 : decode jdk_38_method_25_code 10 = .ok (.aload_n 0, 1) := by decide +kernel
theorem d7_11 : decode jdk_38_method_25_code 11 = .ok (.aload_n 1, 1) := by decide +kernel
theorem d7_12 : decode jdk_38_method_25_code 12 = .ok (.aload_n 0, 1) := by decide +kernel
theorem d7_13 : decode jdk_38_method_25_code 13 = .ok (.getfield 9, 3) := by decide +kernel
theorem d7_16 : decode jdk_38_method_25_code 16 = .ok (.aload_n 0, 1) := by decide +kernel
theorem d7_17 : decode jdk_38_method_25_code 17 = .ok (.getfield 48, 3) := by decide +kernel
theorem d7_20 : decode jdk_38_method_25_code 20 = .ok (.invokevirtual 131, 3) := by decide +kernel
theorem d7_23 : decode jdk_38_method_25_code 23 = .ok (.iconst 1, 1) := by decide +kernel
theorem d7_24 : decode jdk_38_method_25_code 24 = .ok (.ireturn, 1) := by decide +kernel
theorem d8_0 : decode jdk_38_method_24_code 0 = .ok (.iload_n 3, 1) := by decide +kernel
theorem d8_1 : decode jdk_38_method_24_code 1 = .ok (.aload_n 2, 1) := by decide +kernel
theorem d8_2 : decode jdk_38_method_24_code 2 = .ok (.arraylength, 1) := by decide +kernel
theorem d8_3 : decode jdk_38_method_24_code 3 = .ok (.if_icmp .ne 8, 3) := by decide +kernel
theorem d8_6 : decode jdk_38_method_24_code 6 = .ok (.aload_n 0, 1) := by decide +kernel
theorem d8_7 : decode jdk_38_method_24_code 7 = .ok (.invokevirtual 129, 3) := by decide +kernel
theorem d8_10 : decode jdk_38_method_24_code 10 = .ok (.astore_n 2, 1) := by decide +kernel
theorem d8_11 : decode jdk_38_method_24_code 11 = .ok (.aload_n 2, 1) := by decide +kernel
theorem d8_12 : decode jdk_38_method_24_code 12 = .ok (.iload_n 3, 1) := by decide +kernel
theorem d8_13 : decode jdk_38_method_24_code 13 = .ok (.aload_n 1, 1) := by decide +kernel
theorem d8_14 : decode jdk_38_method_24_code 14 = .ok (.aastore, 1) := by decide +kernel
theorem d8_15 : decode jdk_38_method_24_code 15 = .ok (.aload_n 0, 1) := by decide +kernel
theorem d8_16 : decode jdk_38_method_24_code 16 = .ok (.iload_n 3, 1) := by decide +kernel
theorem d8_17 : decode jdk_38_method_24_code 17 = .ok (.iconst 1, 1) := by decide +kernel
theorem d8_18 : decode jdk_38_method_24_code 18 = .ok (.iadd, 1) := by decide +kernel
theorem d8_19 : decode jdk_38_method_24_code 19 = .ok (.putfield 48, 3) := by decide +kernel
theorem d8_22 : decode jdk_38_method_24_code 22 = .ok (.return_, 1) := by decide +kernel
theorem d9_0 : decode jdk_38_method_7_code 0 = .ok (.aload_n 0, 1) := by decide +kernel
theorem d9_1 : decode jdk_38_method_7_code 1 = .ok (.aload_n 0, 1) := by decide +kernel
theorem d9_2 : decode jdk_38_method_7_code 2 = .ok (.getfield 48, 3) := by decide +kernel
theorem d9_5 : decode jdk_38_method_7_code 5 = .ok (.iconst 1, 1) := by decide +kernel
theorem d9_6 : decode jdk_38_method_7_code 6 = .ok (.iadd, 1) := by decide +kernel
theorem d9_7 : decode jdk_38_method_7_code 7 = .ok (.invokevirtual 69, 3) := by decide +kernel
theorem d9_10 : decode jdk_38_method_7_code 10 = .ok (.areturn, 1) := by decide +kernel
theorem d10_0 : decode jdk_38_method_6_code 0 = .ok (.aload_n 0, 1) := by decide +kernel
theorem d10_1 : decode jdk_38_method_6_code 1 = .ok (.getfield 9, 3) := by decide +kernel
theorem d10_4 : decode jdk_38_method_6_code 4 = .ok (.arraylength, 1) := by decide +kernel
theorem d10_5 : decode jdk_38_method_6_code 5 = .ok (.istore_n 2, 1) := by decide +kernel
theorem d10_6 : decode jdk_38_method_6_code 6 = .ok (.iload_n 2, 1) := by decide +kernel
theorem d10_7 : decode jdk_38_method_6_code 7 = .ok (.ifCond .gt 13, 3) := by decide +kernel
theorem d10_10 : decode jdk_38_method_6_code 10 = .ok (.aload_n 0, 1) := by decide +kernel
theorem d10_11 : decode jdk_38_method_6_code 11 = .ok (.getfield 9, 3) := by decide +kernel
theorem d10_14 : decode jdk_38_method_6_code 14 = .ok (.getstatic 39, 3) := by decide +kernel
theorem d10_17 : decode jdk_38_method_6_code 17 = .ok (.if_acmp .eq 28, 3) := by decide +kernel
theorem d10_20 : decode jdk_38_method_6_code 20 = .ok (.iload_n 2, 1) := by decide +kernel
theorem d10_21 : decode jdk_38_method_6_code 21 = .ok (.iload_n 1, 1) := by decide +kernel
theorem d10_22 : decode jdk_38_method_6_code 22 = .ok (.iload_n 2, 1) := by decide +kernel
theorem d10_23 : decode jdk_38_method_6_code 23 = .ok (.isub, 1) := by decide +kernel
theorem d10_24 : decode jdk_38_method_6_code 24 = .ok (.iload_n 2, 1) := by decide +kernel
theorem d10_25 : decode jdk_38_method_6_code 25 = .ok (.iconst 1, 1) := by decide +kernel
theorem d10_26 : decode jdk_38_method_6_code 26 = .ok (.ishr, 1) := by decide +kernel
theorem d10_27 : decode jdk_38_method_6_code 27 = .ok (.invokestatic 73, 3) := by decide +kernel
theorem d10_30 : decode jdk_38_method_6_code 30 = .ok (.istore_n 3, 1) := by decide +kernel
theorem d10_31 : decode jdk_38_method_6_code 31 = .ok (.aload_n 0, 1) := by decide +kernel
theorem d10_32 : decode jdk_38_method_6_code 32 = .ok (.aload_n 0, 1) := by decide +kernel
theorem d10_33 : decode jdk_38_method_6_code 33 = .ok (.getfield 9, 3) := by decide +kernel
theorem d10_36 : decode jdk_38_method_6_code 36 = .ok (.iload_n 3, 1) := by decide +kernel
theorem d10_37 : decode jdk_38_method_6_code 37 = .ok (.invokestatic 66, 3) := by decide +kernel
theorem d10_40 : decode jdk_38_method_6_code 40 = .ok (.dup_x1, 1) := by decide +kernel
theorem d10_41 : decode jdk_38_method_6_code 41 = .ok (.putfield 9, 3) := by decide +kernel
theorem d10_44 : decode jdk_38_method_6_code 44 = .ok (.areturn, 1) := by decide +kernel
theorem d10_45 : decode jdk_38_method_6_code 45 = .ok (.aload_n 0, 1) := by decide +kernel
theorem d10_46 : decode jdk_38_method_6_code 46 = .ok (.bipush 10, 2) := by decide +kernel
theorem d10_48 : decode jdk_38_method_6_code 48 = .ok (.iload_n 1, 1) := by decide +kernel
theorem d10_49 : decode jdk_38_method_6_code 49 = .ok (.invokestatic 79, 3) := by decide +kernel
theorem d10_52 : decode jdk_38_method_6_code 52 = .ok (.anewarray 7, 3) := by decide +kernel
theorem d10_55 : decode jdk_38_method_6_code 55 = .ok (.dup_x1, 1) := by decide +kernel
theorem d10_56 : decode jdk_38_method_6_code 56 = .ok (.putfield 9, 3) := by decide +kernel
theorem d10_59 : decode jdk_38_method_6_code 59 = .ok (.areturn, 1) := by decide +kernel
theorem d11_0 : decode jdk_29_method_65_code 0 = .ok (.iload_n 0, 1) := by decide +kernel
theorem d11_1 : decode jdk_29_method_65_code 1 = .ok (.iload_n 1, 1) := by decide +kernel
theorem d11_2 : decode jdk_29_method_65_code 2 = .ok (.if_icmp .lt 7, 3) := by decide +kernel
theorem d11_5 : decode jdk_29_method_65_code 5 = .ok (.iload_n 0, 1) := by decide +kernel
theorem d11_6 : decode jdk_29_method_65_code 6 = .ok (.goto 4, 3) := by decide +kernel
theorem d11_9 : decode jdk_29_method_65_code 9 = .ok (.iload_n 1, 1) := by decide +kernel
theorem d11_10 : decode jdk_29_method_65_code 10 = .ok (.ireturn, 1) := by decide +kernel
abbrev R0 : Room := { frames := 0, cells := 0, slots := 0, locals := 0 }
abbrev R1 : Room := { frames := 1, cells := 0, slots := 0, locals := 12 }
abbrev R2 : Room := { frames := 2, cells := 0, slots := 0, locals := 24 }
abbrev R3 : Room := { frames := 3, cells := 0, slots := 0, locals := 36 }
abbrev RG1 : Room := { frames := 1, cells := 1, slots := 10, locals := 14 }
abbrev RG0 : Room := { frames := 2, cells := 1, slots := 10, locals := 29 }
abbrev RA3 : Room := { frames := 3, cells := 1, slots := 10, locals := 41 }
abbrev RA1 : Room := { frames := 4, cells := 1, slots := 10, locals := 56 }
def E0 (Z : State) (h : Heap) (d : Nat) : Prop := ∃ c : Cell, Arr Z h d c (.object "java/lang/Object") ∧ c.slots.size.toInt32 = 0
theorem E0.ext {Z : State} {h h' : Heap} {d : Nat} (F : E0 Z h d) (x : Ext h h') : E0 Z h' d := by obtain ⟨c, A, q⟩ := F; exact ⟨c, A.ext x, q⟩
theorem E0.keep {Z : State} {h h' : Heap} {d : Nat} {ws : List Nat} (F : E0 Z h d) (K : Keep h h' ws) (q : d ∉ ws) : E0 Z h' d := by obtain ⟨c, A, r⟩ := F; exact ⟨c, ⟨K.2.1 d c A.1 q, A.2⟩, r⟩
theorem E0.lt {Z : State} {h : Heap} {d : Nat} (F : E0 Z h d) : d < h.size := by obtain ⟨c, A, q⟩ := F; exact A.lt
def Qn (h0 : Heap) (v : Option Value) (h : Heap) : Prop := v = none ∧ h0 = h
def Al (Z : State) (h : Heap) (a : Nat) (e : Value) : Prop := Exa Z h a "java/util/ArrayList" ∧ Fld Z h a "java/util/AbstractList" "modCount" "I" (.int 0) ∧ Fld Z h a "java/util/ArrayList" "elementData" "[Ljava/lang/Object;" e ∧ Fld Z h a "java/util/ArrayList" "size" "I" (.int 0)
def Qab (Z : State) (h0 : Heap) (a : Nat) (e d : Value) (v : Option Value) (h : Heap) : Prop := v = none ∧ Keep h0 h [a] ∧ Al Z h a e ∧ Sta Z h "java/util/ArrayList" "DEFAULTCAPACITY_EMPTY_ELEMENTDATA" "[Ljava/lang/Object;" d
def Qk (h0 : Heap) (a : Nat) (v : Option Value) (h : Heap) : Prop := v = none ∧ Keep h0 h [a]
def Qm (Z : State) (h0 : Heap) (a : Nat) (v : Option Value) (h : Heap) : Prop := v = none ∧ Keep h0 h [a] ∧ Exa Z h a "com/example/langouste/langouste/quorum/Member"
def Qg (Z : State) (h0 : Heap) (a : Nat) (v : Option Value) (h : Heap) : Prop := ∃ (r : Nat) (cA : ClassId), v = some (.ref r) ∧ h0.size ≤ r ∧ Keep h0 h [a] ∧ Exa Z h a "java/util/ArrayList" ∧ Fld Z h a "java/util/ArrayList" "size" "I" (.int 0) ∧ Arr Z h r (newA cA (.object "java/lang/Object") 10) (.object "java/lang/Object") ∧ Ovr Z cA "java/lang/Object"
def Qa (h0 : Heap) (a : Nat) (v : Option Value) (h : Heap) : Prop := v = some (.int 1) ∧ Keep h0 h [a]
def Qi (z : Int32) (h0 : Heap) (v : Option Value) (h : Heap) : Prop := v = some (.int z) ∧ h0 = h
def Qen (Z : State) (h0 : Heap) (a : Nat) (t i s : Int32) (v : Option Value) (h : Heap) : Prop := v = none ∧ Keep h0 h [a] ∧ Exa Z h a "com/example/langouste/langouste/quorum/Ensemble" ∧ Fld Z h a "com/example/langouste/langouste/quorum/Ensemble" "tickTime" "I" (.int t) ∧ Fld Z h a "com/example/langouste/langouste/quorum/Ensemble" "initLimit" "I" (.int i) ∧ Fld Z h a "com/example/langouste/langouste/quorum/Ensemble" "syncLimit" "I" (.int s)
def Ql (z : Int64) (h0 : Heap) (v : Option Value) (h : Heap) : Prop := v = some (.long z) ∧ h0 = h
theorem own_prod (a b : Int32) : (a.toInt64 * b.toInt64).toInt = a.toInt * b.toInt := by
  have r1 := rng32 a; have r2 := rng32 b
  have m := mc r1.1 (Int.le_of_lt_add_one (show a.toInt < 2147483647 + 1 by omega)) r2.1 (Int.le_of_lt_add_one (show b.toInt < 2147483647 + 1 by omega))
  rw [Int64.toInt_mul, Int32.toInt_toInt64, Int32.toInt_toInt64]
  exact Int.bmod_eq_of_le (by omega) (by omega)
theorem own_rem (a b : Int32) : (a.toInt64 * b.toInt64) % b.toInt64 = 0 := by
  apply Int64.toInt_inj.mp
  rw [Int64.toInt_mod, own_prod, Int32.toInt_toInt64, Int.mul_tmod_left]; rfl
theorem own_ne {b : Int32} (hb : ¬ b.toInt = 0) : b.toInt64 ≠ 0 := fun q => hb (by rw [← Int32.toInt_toInt64, q]; rfl)
theorem own_div (a b : Int32) (hb : ¬ b.toInt = 0) : (a.toInt64 * b.toInt64) / b.toInt64 = a.toInt64 := by
  apply Int64.toInt_inj.mp
  have r1 := rng32 a
  rw [Int64.toInt_div, own_prod, Int32.toInt_toInt64, Int.mul_tdiv_cancel _ hb, Int32.toInt_toInt64]
  exact Int.bmod_eq_of_le (by omega) (by omega)
theorem own_zero (a b : Int32) (hb : b.toInt = 0) : a.toInt64 * b.toInt64 = 0 := by
  apply Int64.toInt_inj.mp
  rw [own_prod, hb, Int.mul_zero]; rfl
theorem own_self (x : Int64) : XT.cmpL x x = 0 := by
  show (if x < x then (1 : Int32) else if x = x then 0 else -1) = 0
  rw [if_neg (by rw [Int64.lt_iff_toInt_lt]; omega), if_pos rfl]
set_option maxRecDepth 65536 in
set_option maxHeartbeats 4000000 in
theorem rmR (Z : State) (a0 : Array Value) (hw : ∀ d ∈ tables_1, d.before a0 Z = true) (a : Nat) (h0 : Heap) (n0 : Nat) : Met Z (⟨"java/lang/Record", "<init>", "()V"⟩ : MethodName) jdk_30_method_1_code 1 none R1 #[.ref a] h0 n0 (Qn h0) := by
  refine met_of (Ls := #[.val (.ref a)]) (plainFor_of_name pn4) (fun m => by first | (simp [entryFrame, mkF, argsToLocals, Value.category]; done) | rfl) ?_
  intro E (C : Cx E Z "java/lang/Record" "<init>" jdk_30_method_1_code 1 none)
  refine go_aloadN C (pc' := 1) d6_0 rfl rfl rfl ?_
  refine go_initO C (pc' := 4) (own_w hw (i := 37) rfl) (own_w hw (i := 19) rfl) (own_w hw (i := 20) rfl) d6_1 rfl (by decide) 0 rfl (by decide) rfl ?_
  refine go_retV C d6_4 (by decide) (by decide) ?_
  exact ⟨rfl, rfl⟩
set_option maxRecDepth 65536 in
set_option maxHeartbeats 4000000 in
theorem rmAC (Z : State) (a0 : Array Value) (hw : ∀ d ∈ tables_1, d.before a0 Z = true) (a : Nat) (h0 : Heap) (n0 : Nat) : Met Z (⟨"java/util/AbstractCollection", "<init>", "()V"⟩ : MethodName) jdk_22_method_1_code 1 none R1 #[.ref a] h0 n0 (Qn h0) := by
  refine met_of (Ls := #[.val (.ref a)]) (plainFor_of_name pn2) (fun m => by first | (simp [entryFrame, mkF, argsToLocals, Value.category]; done) | rfl) ?_
  intro E (C : Cx E Z "java/util/AbstractCollection" "<init>" jdk_22_method_1_code 1 none)
  refine go_aloadN C (pc' := 1) d3_0 rfl rfl rfl ?_
  refine go_initO C (pc' := 4) (own_w hw (i := 18) rfl) (own_w hw (i := 19) rfl) (own_w hw (i := 20) rfl) d3_1 rfl (by decide) 0 rfl (by decide) rfl ?_
  refine go_retV C d3_4 (by decide) (by decide) ?_
  exact ⟨rfl, rfl⟩
set_option maxRecDepth 65536 in
set_option maxHeartbeats 4000000 in
theorem rmAB (Z : State) (a0 : Array Value) (hw : ∀ d ∈ tables_1, d.before a0 Z = true) (a : Nat) (d : Value) (h0 : Heap) (n0 : Nat) (ga : n0 ≤ a) (B0 : Al Z h0 a .null) (S0 : Sta Z h0 "java/util/ArrayList" "DEFAULTCAPACITY_EMPTY_ELEMENTDATA" "[Ljava/lang/Object;" d) : Met Z (⟨"java/util/AbstractList", "<init>", "()V"⟩ : MethodName) jdk_39_method_1_code 1 none R2 #[.ref a] h0 n0 (Qab Z h0 a .null d) := by
  refine met_of (Ls := #[.val (.ref a)]) (plainFor_of_name pn1) (fun m => by first | (simp [entryFrame, mkF, argsToLocals, Value.category]; done) | rfl) ?_
  intro E (C : Cx E Z "java/util/AbstractList" "<init>" jdk_39_method_1_code 1 none)
  have K0 := Keep.refl h0 [a]
  obtain ⟨X0, FmodCount0, FelementData0, Fsize0⟩ := B0
  refine go_aloadN C (pc' := 1) d2_0 rfl rfl rfl ?_
  refine go_callC C (pc' := 4) (k' := 0) (n' := 0) (argsL := []) (rest := []) (own_w hw (i := 12) rfl) (own_w hw (i := 13) rfl) (own_w hw (i := 16) rfl) (own_w hw (i := 17) rfl) rfl (rmAC Z a0 hw a h0 n0) d2_1 rfl rfl (lenOf pd0 rfl) (by decide) (by decide) 0 rfl (by decide) rfl rfl (by decide) (by decide) rfl ?_
  rintro _ _ ⟨rfl, rfl⟩
  show Go E R2 n0 (Qab Z h0 a .null d) h0 0 0 4 #[.val (.ref a)] []
  refine go_aloadN C (pc' := 5) d2_4 rfl rfl rfl ?_
  refine go_iconst C (pc' := 6) (z := 0) d2_5 rfl rfl ?_
  refine go_putF C (pc' := 9) (ty := .int) (own_w hw (i := 21) rfl) FmodCount0 X0 (Or.inl (own_w hw (i := 22) rfl)) (own_w hw (i := 1) rfl) (by decide) rfl rfl ga d2_6 rfl ?_
  intro h1 W1
  have X1 := X0.wr W1
  have K1 := K0.wr W1 (Or.inl (List.mem_singleton.mpr rfl))
  have FmodCount1 := FmodCount0.same W1
  have FelementData1 := FelementData0.other W1 (Or.inr (slot_ne (Or.inl (own_w hw (i := 25) rfl)) (Or.inl (own_w hw (i := 22) rfl)) (by decide) (t := (.array (.object "java/lang/Object"))) (t' := .int) (by decide) (by decide)))
  have Fsize1 := Fsize0.other W1 (Or.inr (slot_ne (Or.inl (own_w hw (i := 56) rfl)) (Or.inl (own_w hw (i := 22) rfl)) (by decide) (t := .int) (t' := .int) (by decide) (by decide)))
  have S1 := S0.wr W1
  refine go_retV C d2_9 (by decide) (by decide) ?_
  exact ⟨rfl, K1, ⟨X1, FmodCount1, FelementData1, Fsize1⟩, S1⟩
set_option maxRecDepth 65536 in
set_option maxHeartbeats 4000000 in
theorem rmAL (Z : State) (a0 : Array Value) (hw : ∀ d ∈ tables_1, d.before a0 Z = true) (a d : Nat) (h0 : Heap) (n0 : Nat) (ga : n0 ≤ a) (B0 : Al Z h0 a .null) (S0 : Sta Z h0 "java/util/ArrayList" "DEFAULTCAPACITY_EMPTY_ELEMENTDATA" "[Ljava/lang/Object;" (.ref d)) : Met Z (⟨"java/util/ArrayList", "<init>", "()V"⟩ : MethodName) jdk_38_method_2_code 1 none R3 #[.ref a] h0 n0 (Qab Z h0 a (.ref d) (.ref d)) := by
  refine met_of (Ls := #[.val (.ref a)]) (plainFor_of_name pn0) (fun m => by first | (simp [entryFrame, mkF, argsToLocals, Value.category]; done) | rfl) ?_
  intro E (C : Cx E Z "java/util/ArrayList" "<init>" jdk_38_method_2_code 1 none)
  refine go_aloadN C (pc' := 1) d1_0 rfl rfl rfl ?_
  refine go_callC C (pc' := 4) (k' := 0) (n' := 0) (argsL := []) (rest := []) (own_w hw (i := 6) rfl) (own_w hw (i := 7) rfl) (own_w hw (i := 10) rfl) (own_w hw (i := 11) rfl) rfl (rmAB Z a0 hw a (.ref d) h0 n0 ga B0 S0) d1_1 rfl rfl (lenOf pd0 rfl) (by decide) (by decide) 0 rfl (by decide) rfl rfl (by decide) (by decide) rfl ?_
  rintro _ hA ⟨rfl, K0, ⟨X0, FmodCount0, FelementData0, Fsize0⟩, SA⟩
  show Go E R3 n0 (Qab Z h0 a (.ref d) (.ref d)) hA 0 0 4 #[.val (.ref a)] []
  refine go_aloadN C (pc' := 5) d1_4 rfl rfl rfl ?_
  refine go_getS C (pc' := 8) (own_w hw (i := 23) rfl) SA d1_5 rfl ?_
  refine go_putF C (pc' := 11) (ty := (.array (.object "java/lang/Object"))) (own_w hw (i := 24) rfl) FelementData0 X0 (Or.inl (own_w hw (i := 25) rfl)) (own_w hw (i := 1) rfl) (by decide) rfl rfl ga d1_8 rfl ?_
  intro h1 W1
  have X1 := X0.wr W1
  have K1 := K0.wr W1 (Or.inl (List.mem_singleton.mpr rfl))
  have FmodCount1 := FmodCount0.other W1 (Or.inr (slot_ne (Or.inl (own_w hw (i := 22) rfl)) (Or.inl (own_w hw (i := 25) rfl)) (by decide) (t := .int) (t' := (.array (.object "java/lang/Object"))) (by decide) (by decide)))
  have FelementData1 := FelementData0.same W1
  have Fsize1 := Fsize0.other W1 (Or.inr (slot_ne (Or.inl (own_w hw (i := 56) rfl)) (Or.inl (own_w hw (i := 25) rfl)) (by decide) (t := .int) (t' := (.array (.object "java/lang/Object"))) (by decide) (by decide)))
  have SB := SA.wr W1
  refine go_retV C d1_11 (by decide) (by decide) ?_
  exact ⟨rfl, K1, ⟨X1, FmodCount1, FelementData1, Fsize1⟩, SB⟩
set_option maxRecDepth 65536 in
set_option maxHeartbeats 4000000 in
theorem rmM (Z : State) (a0 : Array Value) (hw : ∀ d ∈ tables_1, d.before a0 Z = true) (a : Nat) (my : Int64) (h0 : Heap) (n0 : Nat) (ga : n0 ≤ a) (X0 : Exa Z h0 a "com/example/langouste/langouste/quorum/Member") (Fid0 : Fld Z h0 a "com/example/langouste/langouste/quorum/Member" "id" "J" (.long 0)) (FquorumAddress0 : Fld Z h0 a "com/example/langouste/langouste/quorum/Member" "quorumAddress" "Ljava/net/InetSocketAddress;" .null) (FelectionAddress0 : Fld Z h0 a "com/example/langouste/langouste/quorum/Member" "electionAddress" "Ljava/net/InetSocketAddress;" .null) : Met Z (⟨"com/example/langouste/langouste/quorum/Member", "<init>", "(JLjava/net/InetSocketAddress;Ljava/net/InetSocketAddress;)V"⟩ : MethodName) prog_38_method_1_code 5 none R2 #[.ref a, .long my, .null, .null] h0 n0 (Qm Z h0 a) := by
  refine met_of (Ls := #[.val (.ref a), .val (.long my), .second, .val (.null), .val (.null)]) (plainFor_of_name pn3) (fun m => by first | (simp [entryFrame, mkF, argsToLocals, Value.category]; done) | rfl) ?_
  intro E (C : Cx E Z "com/example/langouste/langouste/quorum/Member" "<init>" prog_38_method_1_code 5 none)
  have K0 := Keep.refl h0 [a]
  refine go_aloadN C (pc' := 1) d5_0 rfl rfl rfl ?_
  refine go_callC C (pc' := 4) (k' := 0) (n' := 0) (argsL := []) (rest := []) (own_w hw (i := 32) rfl) (own_w hw (i := 33) rfl) (own_w hw (i := 35) rfl) (own_w hw (i := 36) rfl) rfl (rmR Z a0 hw a h0 n0) d5_1 rfl rfl (lenOf pd0 rfl) (by decide) (by decide) 0 rfl (by decide) rfl rfl (by decide) (by decide) rfl ?_
  rintro _ _ ⟨rfl, rfl⟩
  show Go E R2 n0 (Qm Z h0 a) h0 0 0 4 #[.val (.ref a), .val (.long my), .second, .val (.null), .val (.null)] []
  refine go_aloadN C (pc' := 5) d5_4 rfl rfl rfl ?_
  refine go_lloadN C (pc' := 6) d5_5 rfl rfl ?_
  refine go_putF C (pc' := 9) (ty := .long) (own_w hw (i := 38) rfl) Fid0 X0 (Or.inr ⟨(own_w hw (i := 39) rfl), rfl, rfl⟩) (own_w hw (i := 27) rfl) (by decide) rfl rfl ga d5_6 rfl ?_
  intro h1 W1
  have X1 := X0.wr W1
  have K1 := K0.wr W1 (Or.inl (List.mem_singleton.mpr rfl))
  have Fid1 := Fid0.same W1
  have FquorumAddress1 := FquorumAddress0.other W1 (Or.inr (slot_ne (Or.inr (own_w hw (i := 41) rfl)) (Or.inr (own_w hw (i := 39) rfl)) (by decide) (t := (.object "java/net/InetSocketAddress")) (t' := .long) (by decide) (by decide)))
  have FelectionAddress1 := FelectionAddress0.other W1 (Or.inr (slot_ne (Or.inr (own_w hw (i := 43) rfl)) (Or.inr (own_w hw (i := 39) rfl)) (by decide) (t := (.object "java/net/InetSocketAddress")) (t' := .long) (by decide) (by decide)))
  refine go_aloadN C (pc' := 10) d5_9 rfl rfl rfl ?_
  refine go_aloadN C (pc' := 11) d5_10 rfl rfl rfl ?_
  refine go_putF C (pc' := 14) (ty := (.object "java/net/InetSocketAddress")) (own_w hw (i := 40) rfl) FquorumAddress1 X1 (Or.inr ⟨(own_w hw (i := 41) rfl), rfl, rfl⟩) (own_w hw (i := 27) rfl) (by decide) rfl rfl ga d5_11 rfl ?_
  intro h2 W2
  have X2 := X1.wr W2
  have K2 := K1.wr W2 (Or.inl (List.mem_singleton.mpr rfl))
  have Fid2 := Fid1.other W2 (Or.inr (slot_ne (Or.inr (own_w hw (i := 39) rfl)) (Or.inr (own_w hw (i := 41) rfl)) (by decide) (t := .long) (t' := (.object "java/net/InetSocketAddress")) (by decide) (by decide)))
  have FquorumAddress2 := FquorumAddress1.same W2
  have FelectionAddress2 := FelectionAddress1.other W2 (Or.inr (slot_ne (Or.inr (own_w hw (i := 43) rfl)) (Or.inr (own_w hw (i := 41) rfl)) (by decide) (t := (.object "java/net/InetSocketAddress")) (t' := (.object "java/net/InetSocketAddress")) (by decide) (by decide)))
  refine go_aloadN C (pc' := 15) d5_14 rfl rfl rfl ?_
  refine go_aload C (pc' := 17) d5_15 rfl rfl rfl ?_
  refine go_putF C (pc' := 20) (ty := (.object "java/net/InetSocketAddress")) (own_w hw (i := 42) rfl) FelectionAddress2 X2 (Or.inr ⟨(own_w hw (i := 43) rfl), rfl, rfl⟩) (own_w hw (i := 27) rfl) (by decide) rfl rfl ga d5_17 rfl ?_
  intro h3 W3
  have X3 := X2.wr W3
  have K3 := K2.wr W3 (Or.inl (List.mem_singleton.mpr rfl))
  have Fid3 := Fid2.other W3 (Or.inr (slot_ne (Or.inr (own_w hw (i := 39) rfl)) (Or.inr (own_w hw (i := 43) rfl)) (by decide) (t := .long) (t' := (.object "java/net/InetSocketAddress")) (by decide) (by decide)))
  have FquorumAddress3 := FquorumAddress2.other W3 (Or.inr (slot_ne (Or.inr (own_w hw (i := 41) rfl)) (Or.inr (own_w hw (i := 43) rfl)) (by decide) (t := (.object "java/net/InetSocketAddress")) (t' := (.object "java/net/InetSocketAddress")) (by decide) (by decide)))
  have FelectionAddress3 := FelectionAddress2.same W3
  refine go_retV C d5_20 (by decide) (by decide) ?_
  exact ⟨rfl, K3, X3⟩
set_option maxRecDepth 65536 in
set_option maxHeartbeats 4000000 in
theorem rmMax (Z : State) (h0 : Heap) (n0 : Nat) : Met Z (⟨"java/lang/Math", "max", "(II)I"⟩ : MethodName) jdk_29_method_65_code 2 (some .int) R0 #[.int 10, .int 1] h0 n0 (Qi 10 h0) := by
  refine met_of (Ls := #[.val (.int (10 : Int32)), .val (.int (1 : Int32))]) pn5 (fun m => by first | (simp [entryFrame, mkF, argsToLocals, Value.category]; done) | rfl) ?_
  intro E (C : Cx E Z "java/lang/Math" "max" jdk_29_method_65_code 2 (some .int))
  refine go_iloadN C (pc' := 1) d11_0 rfl rfl ?_
  refine go_iloadN C (pc' := 2) d11_1 rfl rfl ?_
  refine go_icN C (pc' := 5) d11_2 (by decide) rfl ?_
  refine go_iloadN C (pc' := 6) d11_5 rfl rfl ?_
  refine go_goto C (pc' := 10) d11_6 (by decide) (by decide) ?_
  refine go_retI C d11_10 (by decide) (by decide) ?_
  exact ⟨rfl, rfl⟩
set_option maxRecDepth 65536 in
set_option maxHeartbeats 4000000 in
theorem rmG1 (Z : State) (a0 : Array Value) (hw : ∀ d ∈ tables_1, d.before a0 Z = true) (a d : Nat) (h0 : Heap) (n0 : Nat) (ga : n0 ≤ a) (X : Exa Z h0 a "java/util/ArrayList") (Fe : Fld Z h0 a "java/util/ArrayList" "elementData" "[Ljava/lang/Object;" (.ref d)) (Fs : Fld Z h0 a "java/util/ArrayList" "size" "I" (.int 0)) (S0 : Sta Z h0 "java/util/ArrayList" "DEFAULTCAPACITY_EMPTY_ELEMENTDATA" "[Ljava/lang/Object;" (.ref d)) (e0 : E0 Z h0 d) : Met Z (⟨"java/util/ArrayList", "grow", "(I)[Ljava/lang/Object;"⟩ : MethodName) jdk_38_method_6_code 4 (some (.array (.object "java/lang/Object"))) RG1 #[.ref a, .int 1] h0 n0 (Qg Z h0 a) := by
  refine met_of (Ls := #[.val (.ref a), .val (.int (1 : Int32)), .unset, .unset]) (plainFor_of_name pn0) (fun m => by first | (simp [entryFrame, mkF, argsToLocals, Value.category]; done) | rfl) ?_
  intro E (C : Cx E Z "java/util/ArrayList" "grow" jdk_38_method_6_code 4 (some (.array (.object "java/lang/Object"))))
  obtain ⟨c0, Ar, hz⟩ := e0
  refine go_aloadN C (pc' := 1) d10_0 rfl rfl rfl ?_
  refine go_getF C (pc' := 4) (own_w hw (i := 24) rfl) Fe d10_1 rfl ?_
  refine go_alenA C (pc' := 5) (z := 0) Ar hz d10_4 rfl ?_
  refine go_istoreN C (pc' := 6) (Ls' := #[.val (.ref a), .val (.int (1 : Int32)), .val (.int (0 : Int32)), .unset]) d10_5 rfl rfl ?_
  refine go_iloadN C (pc' := 7) d10_6 rfl rfl ?_
  refine go_ifN C (pc' := 10) d10_7 (by decide) rfl ?_
  refine go_aloadN C (pc' := 11) d10_10 rfl rfl rfl ?_
  refine go_getF C (pc' := 14) (own_w hw (i := 24) rfl) Fe d10_11 rfl ?_
  refine go_getS C (pc' := 17) (own_w hw (i := 23) rfl) S0 d10_14 rfl ?_
  refine go_acY C (pc' := 45) d10_17 rfl rfl (show decide (Value.ref d = Value.ref d) = true from decide_eq_true rfl) (by decide) (by decide) ?_
  refine go_aloadN C (pc' := 46) d10_45 rfl rfl rfl ?_
  refine go_bipush C (pc' := 48) (z := 10) d10_46 rfl rfl ?_
  refine go_iloadN C (pc' := 49) d10_48 rfl rfl ?_
  refine go_callS C (pc' := 52) (k' := 0) (n' := 0) (argsL := [(.int (10 : Int32)), (.int (1 : Int32))]) (rest := [(.ref a)]) (own_w hw (i := 72) rfl) (own_w hw (i := 73) rfl) (own_w hw (i := 74) rfl) (own_w hw (i := 75) rfl) (rmMax Z h0 n0) d10_49 rfl rfl (lenOf pd6 rfl) (by decide) (by decide) 1 rfl (by decide) rfl rfl (by decide) (by decide) rfl ?_
  rintro _ _ ⟨rfl, rfl⟩
  show Go E RG1 n0 (Qg Z h0 a) h0 0 0 52 #[.val (.ref a), .val (.int (1 : Int32)), .val (.int (0 : Int32)), .unset] [(.int (10 : Int32)), (.ref a)]
  refine go_newR C (z := 10) (cap := 10) (pc' := 55) (k' := 1) (n' := 10) (own_w hw (i := 76) rfl) (own_w hw (i := 77) rfl) d10_52 (by decide) (by decide) (by decide) rfl rfl (by decide) (by decide) rfl ?_
  intro h1 cA x1 A1 O1
  obtain ⟨r, er⟩ : ∃ q, q = h0.size := ⟨_, rfl⟩
  rw [← er] at A1 ⊢
  have alt := exa_lt X
  have X0 := X.ext x1
  have FelementData0 := Fe.ext x1
  have Fsize0 := Fs.ext x1
  have K0 := (Keep.refl h0 [a]).ext x1
  refine go_dupX1 C (pc' := 56) d10_55 rfl rfl rfl ?_
  have pX0 := X0
  have pK0 := K0
  have pFelementData0 := FelementData0
  have pFsize0 := Fsize0
  refine go_putF C (pc' := 59) (ty := (.array (.object "java/lang/Object"))) (own_w hw (i := 24) rfl) pFelementData0 pX0 (Or.inl (own_w hw (i := 25) rfl)) (own_w hw (i := 1) rfl) (by decide) rfl rfl ga d10_56 rfl ?_
  intro ph1 pW1
  have pX1 := pX0.wr pW1
  have pK1 := pK0.wr pW1 (Or.inl (List.mem_singleton.mpr rfl))
  have pFelementData1 := pFelementData0.same pW1
  have pFsize1 := pFsize0.other pW1 (Or.inr (slot_ne (Or.inl (own_w hw (i := 56) rfl)) (Or.inl (own_w hw (i := 25) rfl)) (by decide) (t := .int) (t' := (.array (.object "java/lang/Object"))) (by decide) (by decide)))
  have A2 := A1.other pW1 (nne (by omega))
  refine go_retA C d10_59 rfl rfl rfl (by decide) (by decide) ?_
  exact ⟨r, cA, rfl, by omega, pK1, pX1, pFsize1, A2, O1⟩
set_option maxRecDepth 65536 in
set_option maxHeartbeats 4000000 in
theorem rmG0 (Z : State) (a0 : Array Value) (hw : ∀ d ∈ tables_1, d.before a0 Z = true) (a d : Nat) (h0 : Heap) (n0 : Nat) (ga : n0 ≤ a) (X : Exa Z h0 a "java/util/ArrayList") (Fe : Fld Z h0 a "java/util/ArrayList" "elementData" "[Ljava/lang/Object;" (.ref d)) (Fs : Fld Z h0 a "java/util/ArrayList" "size" "I" (.int 0)) (S0 : Sta Z h0 "java/util/ArrayList" "DEFAULTCAPACITY_EMPTY_ELEMENTDATA" "[Ljava/lang/Object;" (.ref d)) (e0 : E0 Z h0 d) : Met Z (⟨"java/util/ArrayList", "grow", "()[Ljava/lang/Object;"⟩ : MethodName) jdk_38_method_7_code 1 (some (.array (.object "java/lang/Object"))) RG0 #[.ref a] h0 n0 (Qg Z h0 a) := by
  refine met_of (Ls := #[.val (.ref a)]) (plainFor_of_name pn0) (fun m => by first | (simp [entryFrame, mkF, argsToLocals, Value.category]; done) | rfl) ?_
  intro E (C : Cx E Z "java/util/ArrayList" "grow" jdk_38_method_7_code 1 (some (.array (.object "java/lang/Object"))))
  refine go_aloadN C (pc' := 1) d9_0 rfl rfl rfl ?_
  refine go_aloadN C (pc' := 2) d9_1 rfl rfl rfl ?_
  refine go_getF C (pc' := 5) (own_w hw (i := 55) rfl) Fs d9_2 rfl ?_
  refine go_iconst C (pc' := 6) (z := 1) d9_5 rfl rfl ?_
  refine go_iadd C (pc' := 7) d9_6 rfl ?_
  show Go E RG0 n0 (Qg Z h0 a) h0 0 0 7 #[.val (.ref a)] [(.int (1 : Int32)), (.ref a)]
  refine go_callP C (pc' := 10) (k' := 1) (n' := 10) (argsL := [(.int (1 : Int32))]) (rest := []) (own_w hw (i := 67) rfl) (own_w hw (i := 69) rfl) (own_w hw (i := 68) rfl) (own_w hw (i := 2) rfl) (own_w hw (i := 71) rfl) (own_w hw (i := 1) rfl) (X) (rmG1 Z a0 hw a d h0 n0 ga X Fe Fs S0 e0) d9_7 rfl rfl (lenOf pd5 rfl) (by decide) (by decide) 0 rfl (by decide) rfl rfl (by decide) (by decide) rfl ?_
  rintro _ h1 ⟨r, cA, rfl, q1, q2, q3, q4, q5, q6⟩
  show Go E RG0 n0 (Qg Z h0 a) h1 1 10 10 #[.val (.ref a)] [(.ref r)]
  refine go_retA C d9_10 rfl rfl rfl (by decide) (by decide) ?_
  exact ⟨r, cA, rfl, q1, q2, q3, q4, q5, q6⟩
set_option maxRecDepth 65536 in
set_option maxHeartbeats 4000000 in
theorem rmA3 (Z : State) (a0 : Array Value) (hw : ∀ d ∈ tables_1, d.before a0 Z = true) (a d : Nat) (h0 : Heap) (n0 : Nat) (ga : n0 ≤ a) (X : Exa Z h0 a "java/util/ArrayList") (Fe : Fld Z h0 a "java/util/ArrayList" "elementData" "[Ljava/lang/Object;" (.ref d)) (Fs : Fld Z h0 a "java/util/ArrayList" "size" "I" (.int 0)) (S0 : Sta Z h0 "java/util/ArrayList" "DEFAULTCAPACITY_EMPTY_ELEMENTDATA" "[Ljava/lang/Object;" (.ref d)) (e0 : E0 Z h0 d) (mm : Nat) (hn0 : n0 ≤ h0.size) (XM : Exa Z h0 mm "com/example/langouste/langouste/quorum/Member") : Met Z (⟨"java/util/ArrayList", "add", "(Ljava/lang/Object;[Ljava/lang/Object;I)V"⟩ : MethodName) jdk_38_method_24_code 4 none RA3 #[.ref a, .ref mm, .ref d, .int 0] h0 n0 (Qk h0 a) := by
  refine met_of (Ls := #[.val (.ref a), .val (.ref mm), .val (.ref d), .val (.int (0 : Int32))]) (plainFor_of_name pn0) (fun m => by first | (simp [entryFrame, mkF, argsToLocals, Value.category]; done) | rfl) ?_
  intro E (C : Cx E Z "java/util/ArrayList" "add" jdk_38_method_24_code 4 none)
  obtain ⟨c0, Ar, hz⟩ := e0
  have alt := exa_lt X
  refine go_iloadN C (pc' := 1) d8_0 rfl rfl ?_
  refine go_aloadN C (pc' := 2) d8_1 rfl rfl rfl ?_
  refine go_alenA C (pc' := 3) (z := 0) Ar hz d8_2 rfl ?_
  refine go_icN C (pc' := 6) d8_3 (teq rfl).2 rfl ?_
  refine go_aloadN C (pc' := 7) d8_6 rfl rfl rfl ?_
  refine go_callP C (pc' := 10) (k' := 1) (n' := 10) (argsL := []) (rest := []) (own_w hw (i := 62) rfl) (own_w hw (i := 64) rfl) (own_w hw (i := 63) rfl) (own_w hw (i := 2) rfl) (own_w hw (i := 66) rfl) (own_w hw (i := 1) rfl) (X) (rmG0 Z a0 hw a d h0 n0 ga X Fe Fs S0 ⟨c0, Ar, hz⟩) d8_7 rfl rfl (lenOf pd4 rfl) (by decide) (by decide) 0 rfl (by decide) rfl rfl (by decide) (by decide) rfl ?_
  rintro _ h1 ⟨r, cA, rfl, q1, q2, q3, q4, q5, q6⟩
  have XM1 := XM.keep q2
  show Go E RA3 n0 (Qk h0 a) h1 1 10 10 #[.val (.ref a), .val (.ref mm), .val (.ref d), .val (.int (0 : Int32))] [(.ref r)]
  refine go_astoreN C (pc' := 11) (Ls' := #[.val (.ref a), .val (.ref mm), .val (.ref r), .val (.int (0 : Int32))]) d8_10 rfl rfl rfl ?_
  refine go_aloadN C (pc' := 12) d8_11 rfl rfl rfl ?_
  refine go_iloadN C (pc' := 13) d8_12 rfl rfl ?_
  refine go_aloadN C (pc' := 14) d8_13 rfl rfl rfl ?_
  refine go_aastore C (pc' := 15) q5 (by rw [sz_new]; decide) rfl (Sto.ofV q5 rfl q6 (Ins.of_exa XM1 (own_w hw (i := 78) rfl))) (by omega) d8_14 rfl ?_
  intro h2 W2
  have K2 := keep_wr q2 W2 q1
  have X2 := q3.wr W2
  have F2 := q4.other W2 (Or.inl (nne (by omega)))
  refine go_aloadN C (pc' := 16) d8_15 rfl rfl rfl ?_
  refine go_iloadN C (pc' := 17) d8_16 rfl rfl ?_
  refine go_iconst C (pc' := 18) (z := 1) d8_17 rfl rfl ?_
  refine go_iadd C (pc' := 19) d8_18 rfl ?_
  show Go E RA3 n0 (Qk h0 a) h2 1 10 19 #[.val (.ref a), .val (.ref mm), .val (.ref r), .val (.int (0 : Int32))] [(.int (1 : Int32)), (.ref a)]
  refine go_putF C (pc' := 22) (ty := .int) (own_w hw (i := 55) rfl) F2 X2 (Or.inl (own_w hw (i := 56) rfl)) (own_w hw (i := 1) rfl) (by decide) rfl rfl ga d8_19 rfl ?_
  intro h3 W3
  have K3 := K2.wr W3 (Or.inl (List.mem_singleton.mpr rfl))
  refine go_retV C d8_22 (by decide) (by decide) ?_
  exact ⟨rfl, K3⟩
set_option maxRecDepth 65536 in
set_option maxHeartbeats 4000000 in
theorem rmA1 (Z : State) (a0 : Array Value) (hw : ∀ d ∈ tables_1, d.before a0 Z = true) (a d mm : Nat) (h0 : Heap) (n0 : Nat) (ga : n0 ≤ a) (hda : d ≠ a) (B0 : Al Z h0 a (.ref d)) (S0 : Sta Z h0 "java/util/ArrayList" "DEFAULTCAPACITY_EMPTY_ELEMENTDATA" "[Ljava/lang/Object;" (.ref d)) (e0 : E0 Z h0 d) (hn0 : n0 ≤ h0.size) (XM : Exa Z h0 mm "com/example/langouste/langouste/quorum/Member") : Met Z (⟨"java/util/ArrayList", "add", "(Ljava/lang/Object;)Z"⟩ : MethodName) jdk_38_method_25_code 2 (some .boolean) RA1 #[.ref a, .ref mm] h0 n0 (Qa h0 a) := by
  refine met_of (Ls := #[.val (.ref a), .val (.ref mm)]) (plainFor_of_name pn0) (fun m => by first | (simp [entryFrame, mkF, argsToLocals, Value.category]; done) | rfl) ?_
  intro E (C : Cx E Z "java/util/ArrayList" "add" jdk_38_method_25_code 2 (some .boolean))
  refine go_aloadN C (pc' := 1) d7_0 rfl rfl rfl ?_
  refine go_dup C (pc' := 2) d7_1 rfl rfl ?_
  refine go_getFV C (pc' := 5) (own_w hw (i := 53) rfl) (Via.of (own_w hw (i := 54) rfl)) B0.2.1 d7_2 rfl ?_
  refine go_iconst C (pc' := 6) (z := 1) d7_5 rfl rfl ?_
  refine go_iadd C (pc' := 7) d7_6 rfl ?_
  refine go_putFV C (pc' := 10) (ty := .int) (own_w hw (i := 53) rfl) (Via.of (own_w hw (i := 54) rfl)) B0.2.1 B0.1 (Or.inl (own_w hw (i := 22) rfl)) (own_w hw (i := 1) rfl) (by decide) rfl rfl ga d7_7 rfl ?_
  intro h1 W1
  have K1 := (Keep.refl h0 [a]).wr W1 (Or.inl (List.mem_singleton.mpr rfl))
  have alt := exa_lt B0.1
  have dlt := e0.lt
  have s1 := W1.size
  have X1 := B0.1.wr W1
  have Fe := B0.2.2.1.other W1 (Or.inr (slot_ne (Or.inl (own_w hw (i := 25) rfl)) (Or.inl (own_w hw (i := 22) rfl)) (by decide) (t := (.array (.object "java/lang/Object"))) (t' := .int) (by decide) (by decide)))
  have Fs := B0.2.2.2.other W1 (Or.inr (slot_ne (Or.inl (own_w hw (i := 56) rfl)) (Or.inl (own_w hw (i := 22) rfl)) (by decide) (t := .int) (t' := .int) (by decide) (by decide)))
  have S1 := S0.wr W1
  have e1 := e0.keep K1 (ninS hda nin0)
  have XM1 := XM.wr W1
  refine go_aloadN C (pc' := 11) d7_10 rfl rfl rfl ?_
  refine go_aloadN C (pc' := 12) d7_11 rfl rfl rfl ?_
  refine go_aloadN C (pc' := 13) d7_12 rfl rfl rfl ?_
  refine go_getF C (pc' := 16) (own_w hw (i := 24) rfl) Fe d7_13 rfl ?_
  refine go_aloadN C (pc' := 17) d7_16 rfl rfl rfl ?_
  refine go_getF C (pc' := 20) (own_w hw (i := 55) rfl) Fs d7_17 rfl ?_
  refine go_callP C (pc' := 23) (k' := 1) (n' := 10) (argsL := [(.ref mm), (.ref d), (.int (0 : Int32))]) (rest := []) (own_w hw (i := 57) rfl) (own_w hw (i := 59) rfl) (own_w hw (i := 58) rfl) (own_w hw (i := 2) rfl) (own_w hw (i := 61) rfl) (own_w hw (i := 1) rfl) (X1) (rmA3 Z a0 hw a d h1 n0 ga X1 Fe Fs S1 e1 mm (by omega) XM1) d7_20 rfl rfl (lenOf pd3 rfl) (by decide) (by decide) 0 rfl (by decide) rfl rfl (by decide) (by decide) rfl ?_
  rintro _ h2 ⟨rfl, K2⟩
  show Go E RA1 n0 (Qa h0 a) h2 1 10 23 #[.val (.ref a), .val (.ref mm)] []
  refine go_iconst C (pc' := 24) (z := 1) d7_23 rfl rfl ?_
  refine go_retZ C d7_24 (by decide) (by decide) (by decide) ?_
  exact ⟨rfl, K1.trans K2 (fun x hx => Or.inl hx)⟩
set_option maxRecDepth 65536 in
set_option maxHeartbeats 4000000 in
theorem rmE (Z : State) (a0 : Array Value) (hw : ∀ d ∈ tables_1, d.before a0 Z = true) (a b : Nat) (my : Int64) (t i s : Int32) (h0 : Heap) (n0 : Nat) (ga : n0 ≤ a) (X0 : Exa Z h0 a "com/example/langouste/langouste/quorum/Ensemble") (FmyId0 : Fld Z h0 a "com/example/langouste/langouste/quorum/Ensemble" "myId" "J" (.long 0)) (Fmembers0 : Fld Z h0 a "com/example/langouste/langouste/quorum/Ensemble" "members" "Ljava/util/List;" .null) (FtickTime0 : Fld Z h0 a "com/example/langouste/langouste/quorum/Ensemble" "tickTime" "I" (.int 0)) (FinitLimit0 : Fld Z h0 a "com/example/langouste/langouste/quorum/Ensemble" "initLimit" "I" (.int 0)) (FsyncLimit0 : Fld Z h0 a "com/example/langouste/langouste/quorum/Ensemble" "syncLimit" "I" (.int 0)) : Met Z (⟨"com/example/langouste/langouste/quorum/Ensemble", "<init>", "(JLjava/util/List;III)V"⟩ : MethodName) prog_29_method_1_code 7 none R2 #[.ref a, .long my, .ref b, .int t, .int i, .int s] h0 n0 (Qen Z h0 a t i s) := by
  refine met_of (Ls := #[.val (.ref a), .val (.long my), .second, .val (.ref b), .val (.int t), .val (.int i), .val (.int s)]) (plainFor_of_name pn6) (fun m => by first | (simp [entryFrame, mkF, argsToLocals, Value.category]; done) | rfl) ?_
  intro E (C : Cx E Z "com/example/langouste/langouste/quorum/Ensemble" "<init>" prog_29_method_1_code 7 none)
  have K0 := Keep.refl h0 [a]
  refine go_aloadN C (pc' := 1) d12_0 rfl rfl rfl ?_
  refine go_callC C (pc' := 4) (k' := 0) (n' := 0) (argsL := []) (rest := []) (own_w hw (i := 85) rfl) (own_w hw (i := 33) rfl) (own_w hw (i := 35) rfl) (own_w hw (i := 36) rfl) rfl (rmR Z a0 hw a h0 n0) d12_1 rfl rfl (lenOf pd0 rfl) (by decide) (by decide) 0 rfl (by decide) rfl rfl (by decide) (by decide) rfl ?_
  rintro _ _ ⟨rfl, rfl⟩
  show Go E R2 n0 (Qen Z h0 a t i s) h0 0 0 4 #[.val (.ref a), .val (.long my), .second, .val (.ref b), .val (.int t), .val (.int i), .val (.int s)] []
  refine go_aloadN C (pc' := 5) d12_4 rfl rfl rfl ?_
  refine go_lloadN C (pc' := 6) d12_5 rfl rfl ?_
  refine go_putF C (pc' := 9) (ty := .long) (own_w hw (i := 86) rfl) FmyId0 X0 (Or.inr ⟨(own_w hw (i := 87) rfl), rfl, rfl⟩) (own_w hw (i := 80) rfl) (by decide) rfl rfl ga d12_6 rfl ?_
  intro h1 W1
  have X1 := X0.wr W1
  have K1 := K0.wr W1 (Or.inl (List.mem_singleton.mpr rfl))
  have FmyId1 := FmyId0.same W1
  have Fmembers1 := Fmembers0.other W1 (Or.inr (slot_ne (Or.inr (own_w hw (i := 89) rfl)) (Or.inr (own_w hw (i := 87) rfl)) (by decide) (t := (.object "java/util/List")) (t' := .long) (by decide) (by decide)))
  have FtickTime1 := FtickTime0.other W1 (Or.inr (slot_ne (Or.inr (own_w hw (i := 91) rfl)) (Or.inr (own_w hw (i := 87) rfl)) (by decide) (t := .int) (t' := .long) (by decide) (by decide)))
  have FinitLimit1 := FinitLimit0.other W1 (Or.inr (slot_ne (Or.inr (own_w hw (i := 93) rfl)) (Or.inr (own_w hw (i := 87) rfl)) (by decide) (t := .int) (t' := .long) (by decide) (by decide)))
  have FsyncLimit1 := FsyncLimit0.other W1 (Or.inr (slot_ne (Or.inr (own_w hw (i := 95) rfl)) (Or.inr (own_w hw (i := 87) rfl)) (by decide) (t := .int) (t' := .long) (by decide) (by decide)))
  refine go_aloadN C (pc' := 10) d12_9 rfl rfl rfl ?_
  refine go_aloadN C (pc' := 11) d12_10 rfl rfl rfl ?_
  refine go_putF C (pc' := 14) (ty := (.object "java/util/List")) (own_w hw (i := 88) rfl) Fmembers1 X1 (Or.inr ⟨(own_w hw (i := 89) rfl), rfl, rfl⟩) (own_w hw (i := 80) rfl) (by decide) rfl rfl ga d12_11 rfl ?_
  intro h2 W2
  have X2 := X1.wr W2
  have K2 := K1.wr W2 (Or.inl (List.mem_singleton.mpr rfl))
  have FmyId2 := FmyId1.other W2 (Or.inr (slot_ne (Or.inr (own_w hw (i := 87) rfl)) (Or.inr (own_w hw (i := 89) rfl)) (by decide) (t := .long) (t' := (.object "java/util/List")) (by decide) (by decide)))
  have Fmembers2 := Fmembers1.same W2
  have FtickTime2 := FtickTime1.other W2 (Or.inr (slot_ne (Or.inr (own_w hw (i := 91) rfl)) (Or.inr (own_w hw (i := 89) rfl)) (by decide) (t := .int) (t' := (.object "java/util/List")) (by decide) (by decide)))
  have FinitLimit2 := FinitLimit1.other W2 (Or.inr (slot_ne (Or.inr (own_w hw (i := 93) rfl)) (Or.inr (own_w hw (i := 89) rfl)) (by decide) (t := .int) (t' := (.object "java/util/List")) (by decide) (by decide)))
  have FsyncLimit2 := FsyncLimit1.other W2 (Or.inr (slot_ne (Or.inr (own_w hw (i := 95) rfl)) (Or.inr (own_w hw (i := 89) rfl)) (by decide) (t := .int) (t' := (.object "java/util/List")) (by decide) (by decide)))
  refine go_aloadN C (pc' := 15) d12_14 rfl rfl rfl ?_
  refine go_iload C (pc' := 17) d12_15 rfl rfl ?_
  refine go_putF C (pc' := 20) (ty := .int) (own_w hw (i := 90) rfl) FtickTime2 X2 (Or.inr ⟨(own_w hw (i := 91) rfl), rfl, rfl⟩) (own_w hw (i := 80) rfl) (by decide) rfl rfl ga d12_17 rfl ?_
  intro h3 W3
  have X3 := X2.wr W3
  have K3 := K2.wr W3 (Or.inl (List.mem_singleton.mpr rfl))
  have FmyId3 := FmyId2.other W3 (Or.inr (slot_ne (Or.inr (own_w hw (i := 87) rfl)) (Or.inr (own_w hw (i := 91) rfl)) (by decide) (t := .long) (t' := .int) (by decide) (by decide)))
  have Fmembers3 := Fmembers2.other W3 (Or.inr (slot_ne (Or.inr (own_w hw (i := 89) rfl)) (Or.inr (own_w hw (i := 91) rfl)) (by decide) (t := (.object "java/util/List")) (t' := .int) (by decide) (by decide)))
  have FtickTime3 := FtickTime2.same W3
  have FinitLimit3 := FinitLimit2.other W3 (Or.inr (slot_ne (Or.inr (own_w hw (i := 93) rfl)) (Or.inr (own_w hw (i := 91) rfl)) (by decide) (t := .int) (t' := .int) (by decide) (by decide)))
  have FsyncLimit3 := FsyncLimit2.other W3 (Or.inr (slot_ne (Or.inr (own_w hw (i := 95) rfl)) (Or.inr (own_w hw (i := 91) rfl)) (by decide) (t := .int) (t' := .int) (by decide) (by decide)))
  refine go_aloadN C (pc' := 21) d12_20 rfl rfl rfl ?_
  refine go_iload C (pc' := 23) d12_21 rfl rfl ?_
  refine go_putF C (pc' := 26) (ty := .int) (own_w hw (i := 92) rfl) FinitLimit3 X3 (Or.inr ⟨(own_w hw (i := 93) rfl), rfl, rfl⟩) (own_w hw (i := 80) rfl) (by decide) rfl rfl ga d12_23 rfl ?_
  intro h4 W4
  have X4 := X3.wr W4
  have K4 := K3.wr W4 (Or.inl (List.mem_singleton.mpr rfl))
  have FmyId4 := FmyId3.other W4 (Or.inr (slot_ne (Or.inr (own_w hw (i := 87) rfl)) (Or.inr (own_w hw (i := 93) rfl)) (by decide) (t := .long) (t' := .int) (by decide) (by decide)))
  have Fmembers4 := Fmembers3.other W4 (Or.inr (slot_ne (Or.inr (own_w hw (i := 89) rfl)) (Or.inr (own_w hw (i := 93) rfl)) (by decide) (t := (.object "java/util/List")) (t' := .int) (by decide) (by decide)))
  have FtickTime4 := FtickTime3.other W4 (Or.inr (slot_ne (Or.inr (own_w hw (i := 91) rfl)) (Or.inr (own_w hw (i := 93) rfl)) (by decide) (t := .int) (t' := .int) (by decide) (by decide)))
  have FinitLimit4 := FinitLimit3.same W4
  have FsyncLimit4 := FsyncLimit3.other W4 (Or.inr (slot_ne (Or.inr (own_w hw (i := 95) rfl)) (Or.inr (own_w hw (i := 93) rfl)) (by decide) (t := .int) (t' := .int) (by decide) (by decide)))
  refine go_aloadN C (pc' := 27) d12_26 rfl rfl rfl ?_
  refine go_iload C (pc' := 29) d12_27 rfl rfl ?_
  refine go_putF C (pc' := 32) (ty := .int) (own_w hw (i := 94) rfl) FsyncLimit4 X4 (Or.inr ⟨(own_w hw (i := 95) rfl), rfl, rfl⟩) (own_w hw (i := 80) rfl) (by decide) rfl rfl ga d12_29 rfl ?_
  intro h5 W5
  have X5 := X4.wr W5
  have K5 := K4.wr W5 (Or.inl (List.mem_singleton.mpr rfl))
  have FmyId5 := FmyId4.other W5 (Or.inr (slot_ne (Or.inr (own_w hw (i := 87) rfl)) (Or.inr (own_w hw (i := 95) rfl)) (by decide) (t := .long) (t' := .int) (by decide) (by decide)))
  have Fmembers5 := Fmembers4.other W5 (Or.inr (slot_ne (Or.inr (own_w hw (i := 89) rfl)) (Or.inr (own_w hw (i := 95) rfl)) (by decide) (t := (.object "java/util/List")) (t' := .int) (by decide) (by decide)))
  have FtickTime5 := FtickTime4.other W5 (Or.inr (slot_ne (Or.inr (own_w hw (i := 91) rfl)) (Or.inr (own_w hw (i := 95) rfl)) (by decide) (t := .int) (t' := .int) (by decide) (by decide)))
  have FinitLimit5 := FinitLimit4.other W5 (Or.inr (slot_ne (Or.inr (own_w hw (i := 93) rfl)) (Or.inr (own_w hw (i := 95) rfl)) (by decide) (t := .int) (t' := .int) (by decide) (by decide)))
  have FsyncLimit5 := FsyncLimit4.same W5
  refine go_retV C d12_32 (by decide) (by decide) ?_
  exact ⟨rfl, K5, X5, FtickTime5, FinitLimit5, FsyncLimit5⟩
set_option maxRecDepth 65536 in
set_option maxHeartbeats 4000000 in
theorem rmS (Z : State) (a0 : Array Value) (hw : ∀ d ∈ tables_1, d.before a0 Z = true) (a : Nat) (t i : Int32) (h0 : Heap) (n0 : Nat) (Ft : Fld Z h0 a "com/example/langouste/langouste/quorum/Ensemble" "tickTime" "I" (.int t)) (Fi : Fld Z h0 a "com/example/langouste/langouste/quorum/Ensemble" "initLimit" "I" (.int i)) : Met Z (⟨"com/example/langouste/langouste/quorum/Ensemble", "initLimitMillis", "()J"⟩ : MethodName) prog_29_method_4_code 1 (some .long) R0 #[.ref a] h0 n0 (Ql (i.toInt64 * t.toInt64) h0) := by
  refine met_of (Ls := #[.val (.ref a)]) (plainFor_of_name pn6) (fun m => by first | (simp [entryFrame, mkF, argsToLocals, Value.category]; done) | rfl) ?_
  intro E (C : Cx E Z "com/example/langouste/langouste/quorum/Ensemble" "initLimitMillis" prog_29_method_4_code 1 (some .long))
  refine go_aloadN C (pc' := 1) d13_0 rfl rfl rfl ?_
  refine go_getF C (pc' := 4) (own_w hw (i := 92) rfl) Fi d13_1 rfl ?_
  refine go_i2l C (pc' := 5) d13_4 rfl ?_
  refine go_aloadN C (pc' := 6) d13_5 rfl rfl rfl ?_
  refine go_getF C (pc' := 9) (own_w hw (i := 90) rfl) Ft d13_6 rfl ?_
  refine go_i2l C (pc' := 10) d13_9 rfl ?_
  refine go_lmul C (pc' := 11) d13_10 rfl ?_
  refine go_retL C d13_11 (by decide) (by decide) ?_
  exact ⟨rfl, rfl⟩
def Q1 (v : Option Value) (h : Heap) : Prop := v = some (.int 1)
set_option maxRecDepth 65536 in
set_option maxHeartbeats 4000000 in
theorem rm0 (Z : State) (a0 : Array Value) (hw : ∀ d ∈ tables_1, d.before a0 Z = true) (my : Int64) (t i s : Int32) (d : Nat) (h0 : Heap) (n0 : Nat) (Z0 : n0 ≤ h0.size) (S0 : Sta Z h0 "java/util/ArrayList" "DEFAULTCAPACITY_EMPTY_ELEMENTDATA" "[Ljava/lang/Object;" (.ref d)) (e0 : E0 Z h0 d) : Met Z Jvm.Pilot.@@N@@.x code maxLocals ret room_1 #[.long my, .int t, .int i, .int s] h0 n0 Q1 := by
  refine met_of (Ls := #[.val (.long my), .second, .val (.int t), .val (.int i), .val (.int s), .unset, .unset, .unset, .unset, .unset, .unset]) (plainFor_of_name pn7) (fun m => by first | (simp [entryFrame, mkF, argsToLocals, Value.category, maxLocals]; done) | rfl) ?_
  intro E (C : Cx E Z "com/example/langouste/langouste/quorum/EnsembleInitLimitMillisPinLaw" "law" code 11 (some .boolean))
  refine go_newO C (pc' := 3) (k' := 1) (n' := 3) (own_w hw (i := 0) rfl) (own_w hw (i := 1) rfl) (own_w hw (i := 2) rfl) at_0 rfl rfl (by decide) (by decide) rfl ?_
  intro hn1 x1 A1 D1
  obtain ⟨a1, ea1⟩ : ∃ q, q = h0.size := ⟨_, rfl⟩
  rw [← ea1] at A1 D1 ⊢
  have zn1 := x1.1
  have g1 : n0 ≤ a1 := by omega
  have dlt := e0.lt
  refine go_dup C (pc' := 4) at_3 rfl rfl ?_
  refine go_callC C (pc' := 7) (k' := 1) (n' := 3) (argsL := []) (rest := [(.ref a1)]) (own_w hw (i := 3) rfl) (own_w hw (i := 4) rfl) (own_w hw (i := 2) rfl) (own_w hw (i := 5) rfl) rfl (rmAL Z a0 hw a1 d hn1 n0 g1 ⟨A1, (D1 (Or.inl (own_w hw (i := 22) rfl)) (ty := .int) (by decide)), (D1 (Or.inl (own_w hw (i := 25) rfl)) (ty := (.array (.object "java/lang/Object"))) (by decide)), (D1 (Or.inl (own_w hw (i := 56) rfl)) (ty := .int) (by decide))⟩ (S0.ext x1)) at_4 rfl rfl (lenOf pd0 rfl) (by decide) (by decide) 1 rfl (by decide) rfl rfl (by decide) (by decide) rfl ?_
  rintro _ hc1 ⟨rfl, K1, B1, S1⟩
  have zc1 := K1.1
  have e1 := (e0.ext x1).keep K1 (nnS (by omega) nin0)
  have lt1 := exa_lt B1.1
  show Go E room_1 n0 Q1 hc1 1 3 7 #[.val (.long my), .second, .val (.int t), .val (.int i), .val (.int s), .unset, .unset, .unset, .unset, .unset, .unset] [(.ref a1)]
  refine go_astore C (pc' := 9) (Ls' := #[.val (.long my), .second, .val (.int t), .val (.int i), .val (.int s), .val (.ref a1), .unset, .unset, .unset, .unset, .unset]) at_7 rfl rfl rfl ?_
  refine go_aload C (pc' := 11) at_9 rfl rfl rfl ?_
  refine go_newO C (pc' := 14) (k' := 2) (n' := 6) (own_w hw (i := 26) rfl) (own_w hw (i := 27) rfl) (own_w hw (i := 28) rfl) at_11 rfl rfl (by decide) (by decide) rfl ?_
  intro hn2 x2 A2 D2
  obtain ⟨a2, ea2⟩ : ∃ q, q = hc1.size := ⟨_, rfl⟩
  rw [← ea2] at A2 D2 ⊢
  have zn2 := x2.1
  have g2 : n0 ≤ a2 := by omega
  refine go_dup C (pc' := 15) at_14 rfl rfl ?_
  refine go_lloadN C (pc' := 16) at_15 rfl rfl ?_
  refine go_aconstNull C (pc' := 17) at_16 rfl ?_
  refine go_aconstNull C (pc' := 18) at_17 rfl ?_
  refine go_callC C (pc' := 21) (k' := 2) (n' := 6) (argsL := [(.long my), .null, .null]) (rest := [(.ref a2), (.ref a1)]) (own_w hw (i := 29) rfl) (own_w hw (i := 30) rfl) (own_w hw (i := 28) rfl) (own_w hw (i := 31) rfl) rfl (rmM Z a0 hw a2 my hn2 n0 g2 A2 (D2 (Or.inr (own_w hw (i := 39) rfl)) (ty := .long) (by decide)) (D2 (Or.inr (own_w hw (i := 41) rfl)) (ty := (.object "java/net/InetSocketAddress")) (by decide)) (D2 (Or.inr (own_w hw (i := 43) rfl)) (ty := (.object "java/net/InetSocketAddress")) (by decide))) at_18 rfl rfl (lenOf pd1 rfl) (by decide) (by decide) 2 rfl (by decide) rfl rfl (by decide) (by decide) rfl ?_
  rintro _ hc2 ⟨rfl, K2, X2⟩
  have zc2 := K2.1
  have n12 : a1 ∉ [a2] := nnS (by omega) nin0
  have B2 : Al Z hc2 a1 (.ref d) := ⟨(B1.1.ext x2).keep K2, (B1.2.1.ext x2).keep K2 n12, (B1.2.2.1.ext x2).keep K2 n12, (B1.2.2.2.ext x2).keep K2 n12⟩
  have S2 := sta_keep (S1.ext x2) K2 (allS ⟨_, A2⟩ all0)
  have e2 := (e1.ext x2).keep K2 (nnS (by omega) nin0)
  show Go E room_1 n0 Q1 hc2 2 6 21 #[.val (.long my), .second, .val (.int t), .val (.int i), .val (.int s), .val (.ref a1), .unset, .unset, .unset, .unset, .unset] [(.ref a2), (.ref a1)]
  refine go_callI C (pc' := 26) (k' := 3) (n' := 16) (argsL := [(.ref a2)]) (rest := []) (own_w hw (i := 44) rfl) (own_w hw (i := 45) rfl) (own_w hw (i := 46) rfl) (own_w hw (i := 47) rfl) (own_w hw (i := 48) rfl) (own_w hw (i := 49) rfl) (own_w hw (i := 50) rfl) (own_w hw (i := 51) rfl) (own_w hw (i := 2) rfl) (own_w hw (i := 52) rfl) rfl B2.1 (rmA1 Z a0 hw a1 d a2 hc2 n0 g1 (by omega) B2 S2 e2 (by omega) X2) at_21 rfl rfl (lenOf pd2 rfl) (by decide) (by decide) 0 rfl (by decide) rfl rfl (by decide) (by decide) rfl ?_
  rintro _ hc3 ⟨rfl, K3⟩
  have zc3 := K3.1
  show Go E room_1 n0 Q1 hc3 3 16 26 #[.val (.long my), .second, .val (.int t), .val (.int i), .val (.int s), .val (.ref a1), .unset, .unset, .unset, .unset, .unset] [(.int (1 : Int32))]
  refine go_pop C (pc' := 27) at_26 rfl rfl ?_
  refine go_newO C (pc' := 30) (k' := 4) (n' := 21) (own_w hw (i := 79) rfl) (own_w hw (i := 80) rfl) (own_w hw (i := 81) rfl) at_27 rfl rfl (by decide) (by decide) rfl ?_
  intro hn3 x3 A3 D3
  obtain ⟨a3, ea3⟩ : ∃ q, q = hc3.size := ⟨_, rfl⟩
  rw [← ea3] at A3 D3 ⊢
  have zn3 := x3.1
  have g3 : n0 ≤ a3 := by omega
  refine go_dup C (pc' := 31) at_30 rfl rfl ?_
  refine go_lloadN C (pc' := 32) at_31 rfl rfl ?_
  refine go_aload C (pc' := 34) at_32 rfl rfl rfl ?_
  refine go_iloadN C (pc' := 35) at_34 rfl rfl ?_
  refine go_iloadN C (pc' := 36) at_35 rfl rfl ?_
  refine go_iload C (pc' := 38) at_36 rfl rfl ?_
  refine go_callC C (pc' := 41) (k' := 4) (n' := 21) (argsL := [(.long my), (.ref a1), (.int t), (.int i), (.int s)]) (rest := [(.ref a3)]) (own_w hw (i := 82) rfl) (own_w hw (i := 83) rfl) (own_w hw (i := 81) rfl) (own_w hw (i := 84) rfl) rfl (rmE Z a0 hw a3 a1 my t i s hn3 n0 g3 A3 (D3 (Or.inr (own_w hw (i := 87) rfl)) (ty := .long) (by decide)) (D3 (Or.inr (own_w hw (i := 89) rfl)) (ty := (.object "java/util/List")) (by decide)) (D3 (Or.inr (own_w hw (i := 91) rfl)) (ty := .int) (by decide)) (D3 (Or.inr (own_w hw (i := 93) rfl)) (ty := .int) (by decide)) (D3 (Or.inr (own_w hw (i := 95) rfl)) (ty := .int) (by decide))) at_38 rfl rfl (lenOf pd7 rfl) (by decide) (by decide) 1 rfl (by decide) rfl rfl (by decide) (by decide) rfl ?_
  rintro _ hc4 ⟨rfl, K4, X4, Ft, Fi, Fs⟩
  show Go E room_1 n0 Q1 hc4 4 21 41 #[.val (.long my), .second, .val (.int t), .val (.int i), .val (.int s), .val (.ref a1), .unset, .unset, .unset, .unset, .unset] [(.ref a3)]
  refine go_astore C (pc' := 43) (Ls' := #[.val (.long my), .second, .val (.int t), .val (.int i), .val (.int s), .val (.ref a1), .val (.ref a3), .unset, .unset, .unset, .unset]) at_41 rfl rfl rfl ?_
  refine go_aload C (pc' := 45) at_43 rfl rfl rfl ?_
  refine go_callV C (pc' := 48) (k' := 4) (n' := 21) (argsL := []) (rest := []) (own_w hw (i := 96) rfl) (own_w hw (i := 97) rfl) (own_w hw (i := 99) rfl) (own_w hw (i := 98) rfl) (own_w hw (i := 81) rfl) (own_w hw (i := 100) rfl) (X4) (rmS Z a0 hw a3 t i hc4 n0 Ft Fi) at_45 rfl rfl (lenOf pd8 rfl) (by decide) (by decide) 0 rfl (by decide) rfl rfl (by decide) (by decide) rfl ?_
  rintro _ _ ⟨rfl, rfl⟩
  show Go E room_1 n0 Q1 hc4 4 21 48 #[.val (.long my), .second, .val (.int t), .val (.int i), .val (.int s), .val (.ref a1), .val (.ref a3), .unset, .unset, .unset, .unset] [(.long ((i).toInt64 * (t).toInt64))]
  refine go_lstore C (pc' := 50) (Ls' := #[.val (.long my), .second, .val (.int t), .val (.int i), .val (.int s), .val (.ref a1), .val (.ref a3), .val (.long ((i).toInt64 * (t).toInt64)), .second, .unset, .unset]) at_48 rfl rfl ?_
  refine go_iloadN C (pc' := 51) at_50 rfl rfl ?_
  refine go_if C (pcY := 67) (pcN := 54) at_51 (by decide) (by decide) rfl ?_ ?_
  · intro q1
    have q2 : ¬ t.toInt = 0 := q1
    refine go_iloadN C (pc' := 68) at_67 rfl rfl ?_
    refine go_i2l C (pc' := 69) at_68 rfl ?_
    refine go_lstore C (pc' := 71) (Ls' := #[.val (.long my), .second, .val (.int t), .val (.int i), .val (.int s), .val (.ref a1), .val (.ref a3), .val (.long ((i).toInt64 * (t).toInt64)), .second, .val (.long (t).toInt64), .second]) at_69 rfl rfl ?_
    refine go_lload C (pc' := 73) at_71 rfl rfl ?_
    refine go_lload C (pc' := 75) at_73 rfl rfl ?_
    refine go_ldiv C (pc' := 76) at_75 (own_ne q2) rfl ?_
    rw [own_div i t q2]
    refine go_iloadN C (pc' := 77) at_76 rfl rfl ?_
    refine go_i2l C (pc' := 78) at_77 rfl ?_
    refine go_lcmp C (pc' := 79) at_78 rfl ?_
    rw [own_self]
    refine go_ifN C (pc' := 82) at_79 (by decide) rfl ?_
    refine go_lload C (pc' := 84) at_82 rfl rfl ?_
    refine go_lload C (pc' := 86) at_84 rfl rfl ?_
    refine go_lrem C (pc' := 87) at_86 (own_ne q2) rfl ?_
    rw [own_rem i t]
    refine go_lconst C (pc' := 88) (z := 0) at_87 rfl rfl ?_
    refine go_lcmp C (pc' := 89) at_88 rfl ?_
    refine go_ifN C (pc' := 92) at_89 (by decide) rfl ?_
    refine go_iconst C (pc' := 93) (z := 1) at_92 rfl rfl ?_
    refine go_goto C (pc' := 97) at_93 (by decide) (by decide) ?_
    refine go_retZ C at_97 (by decide) (by decide) (by decide) ?_
    exact rfl
  · intro q1
    have q2 : t.toInt = 0 := Decidable.not_not.mp q1
    rw [own_zero i t q2]
    refine go_lload C (pc' := 56) at_54 rfl rfl ?_
    refine go_lconst C (pc' := 57) (z := 0) at_56 rfl rfl ?_
    refine go_lcmp C (pc' := 58) at_57 rfl ?_
    refine go_ifN C (pc' := 61) at_58 (by decide) rfl ?_
    refine go_iconst C (pc' := 62) (z := 1) at_61 rfl rfl ?_
    refine go_goto C (pc' := 66) at_62 (by decide) (by decide) ?_
    refine go_retZ C at_66 (by decide) (by decide) (by decide) ?_
    exact rfl
set_option maxRecDepth 65536 in
set_option maxHeartbeats 4000000 in
theorem comes_1 {Post : Tables → Env → Array Value → State → Outcome → State → Prop} (hpost : ∀ tb e args s v u, (limb_1_1.after args s (.returned v) u = true ∧ limb_1_2.after args s (.returned v) u = true ∧ True) → FrameEnd s (.returned v) u (Jvm.fieldLocs frame_1_writes args s ++ Jvm.arrayLocs frame_1_arrays args s ++ Jvm.staticLocs frame_1_statics s) 16 128 → Post tb e args s (.returned v) u) :
    ArmFor flags0 classFile x code maxLocals ret World_1 tables_1 room_1 Calls_1 rest_1 Pre_1 Post := by
  intro l hfl _ _ p e ha hc hk s m args below hf hA hF happ hP
  obtain ⟨hcalls, hrest, hpre⟩ := hP
  obtain ⟨-, -, -, hnamed, -, -, -, hat⟩ := (Spec.applies_iff hf).mp happ
  obtain ⟨hg, hn⟩ := and_e (Cond.before_iff.mp (show (Jvm.Cond.and given_1 narrow_1).before args s = true from hpre))
  obtain ⟨hcnt, g0⟩ := and_e hg
  obtain ⟨f0, g1⟩ := and_e g0
  obtain ⟨f1, g2⟩ := and_e g1
  obtain ⟨f2, g3⟩ := and_e g2
  obtain ⟨w0, w1, w2, w3, rfl⟩ : ∃ w0 w1 w2 w3 : Value, args = #[w0, w1, w2, w3] := by
    have hs : args.size = 4 := by simpa [Cond.value, given_1] using hcnt
    obtain ⟨L⟩ := args
    match L, hs with
    | [w0, w1, w2, w3], _ => exact ⟨w0, w1, w2, w3, rfl⟩
  have hw := fun d (hd : d ∈ tables_1) => atoms_spec (ws := Jvm.Cond.code x code maxLocals ret :: tables_1) hat d (List.mem_cons_of_mem _ hd)
  obtain ⟨i0, e0⟩ := isL_v f0
  obtain rfl : w0 = (.long i0) := Option.some.inj e0
  obtain ⟨i1, e1⟩ := is_v f1
  obtain rfl : w1 = (.int i1) := Option.some.inj e1
  obtain ⟨i2, e2⟩ := is_v f2
  obtain rfl : w2 = (.int i2) := Option.some.inj e2
  obtain ⟨i3, e3⟩ := is_v g3
  obtain rfl : w3 = (.int i3) := Option.some.inj e3
  obtain ⟨hsets, hown0⟩ := atoms_of _ (rest_1_c_eq ▸ (show rest_1_c.before _ s = true from hrest))
  obtain ⟨d, ed⟩ := exa_v (Cond.before_iff.mp (hsets _ (List.mem_of_getElem? (i := 7) rfl)))
  have S0 : Sta s s.heap "java/util/ArrayList" "DEFAULTCAPACITY_EMPTY_ELEMENTDATA" "[Ljava/lang/Object;" (.ref d) := Sta.start ed (Or.inr ⟨hw _ (List.mem_of_getElem? (i := 2) rfl), hsets _ (List.mem_of_getElem? (i := 2) rfl)⟩)
  have z0 : E0 s s.heap d := by
    obtain ⟨c0, Ar⟩ := Arr.start ed (Cond.before_iff.mp (hsets _ (List.mem_of_getElem? (i := 6) rfl)))
    have q8 := Cond.before_iff.mp (hsets _ (List.mem_of_getElem? (i := 8) rfl))
    obtain ⟨x, y, ex, ey, -, -⟩ := cmp_v (Or.inl q8)
    obtain ⟨a', cell, p1, p2, rfl⟩ := Term.length_spec ex
    cases ed.symm.trans p1
    cases (Ar.fin (Vm.Alike.refl _)).symm.trans p2
    exact ⟨_, Ar, gotT (Cond.eq_ints ex (Term.int_eval (0))) q8⟩
  obtain ⟨n, o, h1, h2, h3, _, L, rfl, ⟨rfl, N⟩, hq⟩ := rm0 s _ hw i0 i1 i2 i3 d s.heap s.heap.size (Nat.le_refl _) S0 z0 l tables_1 p e ha hc hk s m _ below hf ((Spec.applies_iff_loose hf).mp happ).1 ⟨rfl, State.Warmed39.refl s, rfl⟩ trivial
  refine ⟨n, _, h1, h2, h3, hpost _ _ _ _ _ _ ⟨Cond.after_iff.mpr rfl, Cond.after_iff.mpr (eq_i res_at (Term.int_eval (1)) rfl), trivial⟩ ⟨hq.1, hq.2.1, (hq.2.2.sift fun y hy => Or.inr (N y hy)).mono (by decide) (by decide)⟩⟩
theorem main_1_1 : Claimed_1_1 := comes_1 fun _ _ _ _ _ _ h hF => ⟨h.1, hF⟩
theorem main_1_2 : Claimed_1_2 := comes_1 fun _ _ _ _ _ _ h hF => ⟨h.2.1, hF⟩
end Jvm.Pilot.@@N@@
namespace Jvm.Pilot.@@N@@
open Jvm Jvm.ClassFile Sem Op Lib Jvm.Free Jvm.Stand Jvm.Pilot.@@N@@.Jvm.D
/-! MADE BY PROGRAM (witnessworld.py) out of the Statement's table words and the real class files: 21 classes; the members and pool entries that the words name. The judged class is class 1, her method 1. -/
namespace start1
open Jvm.ClassFile
def u (s : String) : CpInfo := .utf8 (stringToUtf16 s)
/-- a pool by its gaps: so many unusable entries, then the entry; so many at the end -/
def gap : Nat → List CpInfo → List CpInfo
  | 0, r => r
  | n + 1, r => .unusable :: gap n r
def poolList (es : List (Nat × CpInfo)) (last : Nat) : List CpInfo := es.foldr (fun e r => gap e.1 (e.2 :: r)) (gap last [])
def pool (es : List (Nat × CpInfo)) (last : Nat) : Array CpInfo := ⟨poolList es last⟩
def fileOf (pool : Array CpInfo) (this : Nat) (attrs : Array Attribute := #[]) (ms : Array MethodInfo := #[]) (fl : Nat := 33) (sup : Nat := 0) (ifs : Array Nat := #[]) (fds : Array FieldInfo := #[]) : ClassFile where
  minorVersion := 0
  majorVersion := 65
  constantPool := pool
  accessFlags := fl
  thisClass := this
  superClass := sup
  interfaces := ifs
  fields := fds
  methods := ms
  attributes := attrs
def plain (name : String) (sup : Option ClassId) : Class where
  name := name
  kind := .ordinary
  loader := none
  accessFlags := 33
  super := sup
  interfaces := #[]
  cf := none
  fields := #[]
  methods := #[]
  instanceTypes := #[]
  staticTypes := #[]
  resolved := #[]
  callSites := []
  init := .initialized
  statics := none
  mirror := none

def pool0 : Array CpInfo := pool [(5, u "<init>"), (0, u "()V"), (1, .class_ 10), (1, u "java/lang/Object")] 113

def k0c0 : Code := { maxStack := 0, maxLocals := 1, code := object_method_1_code, exceptionTable := #[], attributes := #[] }
def k0m0 : Method := { name := "<init>", desc := "()V", sig := { parameters := [], returnType := none }, accessFlags := 1, code := some k0c0 }
/-- java/lang/Object -/
def k0 : Class := { plain "java/lang/Object" none with
  accessFlags := 33
  interfaces := #[]
  cf := some (fileOf pool0 8 #[] #[{ accessFlags := 1, nameIndex := 5, descriptorIndex := 6, attributes := #[] }] 33 0 #[] #[])
  fields := #[]
  methods := #[k0m0]
  instanceTypes := #[]
  staticTypes := #[]
  resolved := Array.replicate 124 none
  statics := none }

def pool1 : Array CpInfo := pool [(2, .class_ 4), (0, .nameAndType 5 6), (0, u "java/lang/Object"), (0, u "<init>"), (0, u "()V"), (0, .class_ 8), (0, u "java/util/ArrayList"), (0, .methodref 7 3), (0, .class_ 11), (0, u "com/example/langouste/langouste/quorum/Member"), (0, .methodref 10 13), (0, .nameAndType 5 14), (0, u "(JLjava/net/InetSocketAddress;Ljava/net/InetSocketAddress;)V"), (0, .interfaceMethodref 16 17), (0, .class_ 18), (0, .nameAndType 19 20), (0, u "java/util/List"), (0, u "add"), (0, u "(Ljava/lang/Object;)Z"), (0, .class_ 22), (0, u "com/example/langouste/langouste/quorum/Ensemble"), (0, .methodref 21 24), (0, .nameAndType 5 25), (0, u "(JLjava/util/List;III)V"), (0, .methodref 21 27), (0, .nameAndType 28 29), (0, u "initLimitMillis"), (0, u "()J"), (0, .class_ 31), (0, u "com/example/langouste/langouste/quorum/EnsembleInitLimitMillisPinLaw"), (2, u "law"), (0, u "(JIII)Z")] 3

def k1m0 : Method := { name := "<init>", desc := "()V", sig := { parameters := [], returnType := none }, accessFlags := 1, code := none }
def k1c1 : Code := { maxStack := 8, maxLocals := 11, code := code, exceptionTable := #[], attributes := #[] }
def k1m1 : Method := { name := "law", desc := "(JIII)Z", sig := { parameters := [.long, .int, .int, .int], returnType := some .boolean }, accessFlags := 9, code := some k1c1 }
/-- com/example/langouste/langouste/quorum/EnsembleInitLimitMillisPinLaw -/
def k1 : Class := { plain "com/example/langouste/langouste/quorum/EnsembleInitLimitMillisPinLaw" (some 0) with
  accessFlags := 49
  interfaces := #[]
  cf := some (fileOf pool1 30 #[] #[{ accessFlags := 1, nameIndex := 5, descriptorIndex := 6, attributes := #[] }, { accessFlags := 9, nameIndex := 34, descriptorIndex := 35, attributes := #[] }] 49 2 #[] #[])
  fields := #[]
  methods := #[k1m0, k1m1]
  instanceTypes := #[]
  staticTypes := #[]
  resolved := Array.replicate 39 none
  statics := none }

def pool2 : Array CpInfo := pool [(8, .class_ 10), (1, u "java/lang/Iterable"), (24, .class_ 36), (0, u "java/lang/Object")] 25

/-- java/lang/Iterable -/
def k2 : Class := { plain "java/lang/Iterable" (some 0) with
  accessFlags := 1537
  interfaces := #[]
  cf := some (fileOf pool2 8 #[] #[] 1537 35 #[] #[])
  fields := #[]
  methods := #[]
  instanceTypes := #[]
  staticTypes := #[]
  resolved := Array.replicate 62 none
  statics := none }

def pool3 : Array CpInfo := pool [(10, .class_ 12), (1, u "java/util/Collection"), (47, .class_ 61), (0, u "java/lang/Object"), (0, .class_ 63), (0, u "java/lang/Iterable")] 51

/-- java/util/Collection -/
def k3 : Class := { plain "java/util/Collection" (some 0) with
  accessFlags := 1537
  interfaces := #[2]
  cf := some (fileOf pool3 10 #[] #[] 1537 60 #[62] #[])
  fields := #[]
  methods := #[]
  instanceTypes := #[]
  staticTypes := #[]
  resolved := Array.replicate 115 none
  statics := none }

def pool4 : Array CpInfo := pool [(1, .methodref 2 3), (0, .class_ 4), (0, .nameAndType 5 6), (0, u "java/lang/Object"), (0, u "<init>"), (0, u "()V"), (1, .class_ 10), (1, u "java/util/AbstractCollection"), (66, .class_ 78), (0, u "java/util/Collection")] 81

def k4c0 : Code := { maxStack := 1, maxLocals := 1, code := jdk_22_method_1_code, exceptionTable := #[], attributes := #[] }
def k4m0 : Method := { name := "<init>", desc := "()V", sig := { parameters := [], returnType := none }, accessFlags := 4, code := some k4c0 }
/-- java/util/AbstractCollection -/
def k4 : Class := { plain "java/util/AbstractCollection" (some 0) with
  accessFlags := 1057
  interfaces := #[3]
  cf := some (fileOf pool4 8 #[] #[{ accessFlags := 4, nameIndex := 5, descriptorIndex := 6, attributes := #[] }] 1057 2 #[77] #[])
  fields := #[]
  methods := #[k4m0]
  instanceTypes := #[]
  staticTypes := #[]
  resolved := Array.replicate 160 none
  statics := none }

def pool5 : Array CpInfo := pool [(8, .class_ 10), (1, u "java/util/SequencedCollection"), (15, .class_ 27), (0, u "java/lang/Object"), (0, .class_ 29), (0, u "java/util/Collection")] 27

/-- java/util/SequencedCollection -/
def k5 : Class := { plain "java/util/SequencedCollection" (some 0) with
  accessFlags := 1537
  interfaces := #[3]
  cf := some (fileOf pool5 8 #[] #[] 1537 26 #[28] #[])
  fields := #[]
  methods := #[]
  instanceTypes := #[]
  staticTypes := #[]
  resolved := Array.replicate 57 none
  statics := none }

def pool6 : Array CpInfo := pool [(8, .class_ 10), (1, u "java/util/List"), (49, u "add"), (3, u "(Ljava/lang/Object;)Z"), (38, .class_ 104), (0, u "java/lang/Object"), (15, .class_ 121), (0, u "java/util/SequencedCollection")] 129

def k6m0 : Method := { name := "add", desc := "(Ljava/lang/Object;)Z", sig := { parameters := [(.object "java/lang/Object")], returnType := some .boolean }, accessFlags := 1025, code := none }
/-- java/util/List -/
def k6 : Class := { plain "java/util/List" (some 0) with
  accessFlags := 1537
  interfaces := #[5]
  cf := some (fileOf pool6 8 #[] #[{ accessFlags := 1025, nameIndex := 60, descriptorIndex := 64, attributes := #[] }] 1537 103 #[120] #[])
  fields := #[]
  methods := #[k6m0]
  instanceTypes := #[]
  staticTypes := #[]
  resolved := Array.replicate 251 none
  statics := none }

def pool7 : Array CpInfo := pool [(1, .methodref 2 3), (0, .class_ 4), (0, .nameAndType 5 6), (0, u "java/util/AbstractCollection"), (0, u "<init>"), (0, u "()V"), (0, .fieldref 8 9), (0, .class_ 10), (0, .nameAndType 11 12), (0, u "java/util/AbstractList"), (0, u "modCount"), (0, u "I"), (64, .class_ 78), (0, u "java/util/AbstractList$Itr"), (3, .class_ 83), (0, u "java/util/AbstractList$ListItr"), (9, .class_ 94), (0, u "java/util/AbstractList$RandomAccessSubList"), (3, .class_ 99), (0, u "java/util/AbstractList$SubList"), (33, .class_ 134), (0, u "java/util/List"), (73, .class_ 209), (0, u "java/util/AbstractList$SubList$1"), (0, .class_ 211), (0, u "java/util/AbstractList$RandomAccessSpliterator")] 6

def k7c0 : Code := { maxStack := 2, maxLocals := 1, code := jdk_39_method_1_code, exceptionTable := #[], attributes := #[] }
def k7m0 : Method := { name := "<init>", desc := "()V", sig := { parameters := [], returnType := none }, accessFlags := 4, code := some k7c0 }
/-- java/util/AbstractList -/
def k7 : Class := { plain "java/util/AbstractList" (some 4) with
  accessFlags := 1057
  interfaces := #[6]
  cf := some (fileOf pool7 8 #[.nestMembers #[93, 98, 208, 210, 82, 77]] #[{ accessFlags := 4, nameIndex := 5, descriptorIndex := 6, attributes := #[] }] 1057 2 #[133] #[{ accessFlags := 132, nameIndex := 11, descriptorIndex := 12, attributes := #[] }])
  fields := #[{ name := "modCount", type := .int, accessFlags := 132, slot := 0, constantValue := 0 }]
  methods := #[k7m0]
  instanceTypes := #[.int]
  staticTypes := #[]
  resolved := Array.replicate 218 none
  statics := none }

def pool8 : Array CpInfo := pool [(1, .class_ 2), (0, u "java/util/RandomAccess"), (0, .class_ 4), (0, u "java/lang/Object")] 2

/-- java/util/RandomAccess -/
def k8 : Class := { plain "java/util/RandomAccess" (some 0) with
  accessFlags := 1537
  interfaces := #[]
  cf := some (fileOf pool8 1 #[] #[] 1537 3 #[] #[])
  fields := #[]
  methods := #[]
  instanceTypes := #[]
  staticTypes := #[]
  resolved := Array.replicate 7 none
  statics := none }

def pool9 : Array CpInfo := pool [(1, .class_ 2), (0, u "java/lang/Cloneable"), (0, .class_ 4), (0, u "java/lang/Object")] 2

/-- java/lang/Cloneable -/
def k9 : Class := { plain "java/lang/Cloneable" (some 0) with
  accessFlags := 1537
  interfaces := #[]
  cf := some (fileOf pool9 1 #[] #[] 1537 3 #[] #[])
  fields := #[]
  methods := #[]
  instanceTypes := #[]
  staticTypes := #[]
  resolved := Array.replicate 7 none
  statics := none }

def pool10 : Array CpInfo := pool [(1, .class_ 2), (0, u "java/io/Serializable"), (0, .class_ 4), (0, u "java/lang/Object")] 2

/-- java/io/Serializable -/
def k10 : Class := { plain "java/io/Serializable" (some 0) with
  accessFlags := 1537
  interfaces := #[]
  cf := some (fileOf pool10 1 #[] #[] 1537 3 #[] #[])
  fields := #[]
  methods := #[]
  instanceTypes := #[]
  staticTypes := #[]
  resolved := Array.replicate 7 none
  statics := none }

def pool11 : Array CpInfo := pool [(1, .methodref 2 3), (0, .class_ 4), (0, .nameAndType 5 6), (0, u "java/util/AbstractList"), (0, u "<init>"), (0, u "()V"), (0, .class_ 8), (0, u "java/lang/Object"), (0, .fieldref 10 11), (0, .class_ 12), (0, .nameAndType 13 14), (0, u "java/util/ArrayList"), (0, u "elementData"), (0, u "[Ljava/lang/Object;"), (2, u "EMPTY_ELEMENTDATA"), (21, .fieldref 10 40), (0, .nameAndType 41 14), (0, u "DEFAULTCAPACITY_EMPTY_ELEMENTDATA"), (5, u "()[Ljava/lang/Object;"), (0, .fieldref 10 49), (0, .nameAndType 50 51), (0, u "size"), (0, u "I"), (11, .fieldref 10 64), (0, .nameAndType 65 51), (0, u "modCount"), (3, .methodref 10 70), (0, .nameAndType 71 72), (0, u "grow"), (0, u "(I)[Ljava/lang/Object;"), (6, .methodref 80 81), (0, .class_ 82), (0, .nameAndType 83 84), (0, u "java/lang/Math"), (0, u "max"), (0, u "(II)I"), (11, u "(Ljava/lang/Object;)Z"), (32, .methodref 10 130), (0, .nameAndType 71 47), (0, .methodref 10 132), (0, .nameAndType 133 134), (0, u "add"), (0, u "(Ljava/lang/Object;[Ljava/lang/Object;I)V"), (13, .class_ 149), (0, u "java/util/List"), (112, .class_ 263), (0, u "java/util/ArrayList$ListItr"), (3, .class_ 268), (0, u "java/util/ArrayList$Itr"), (7, .class_ 277), (0, u "java/util/ArrayList$SubList"), (12, .class_ 291), (0, u "java/util/ArrayList$ArrayListSpliterator"), (37, .class_ 330), (0, u "java/util/RandomAccess"), (0, .class_ 332), (0, u "java/lang/Cloneable"), (0, .class_ 334), (0, u "java/io/Serializable"), (0, u "serialVersionUID"), (0, u "J"), (3, u "DEFAULT_CAPACITY"), (159, .class_ 501), (0, u "java/util/ArrayList$SubList$2"), (0, .class_ 503), (0, u "java/util/ArrayList$SubList$1")] 5

def k11c0 : Code := { maxStack := 2, maxLocals := 1, code := jdk_38_method_2_code, exceptionTable := #[], attributes := #[] }
def k11m0 : Method := { name := "<init>", desc := "()V", sig := { parameters := [], returnType := none }, accessFlags := 1, code := some k11c0 }
def k11c1 : Code := { maxStack := 4, maxLocals := 4, code := jdk_38_method_6_code, exceptionTable := #[], attributes := #[] }
def k11m1 : Method := { name := "grow", desc := "(I)[Ljava/lang/Object;", sig := { parameters := [.int], returnType := some (.array (.object "java/lang/Object")) }, accessFlags := 2, code := some k11c1 }
def k11c2 : Code := { maxStack := 3, maxLocals := 1, code := jdk_38_method_7_code, exceptionTable := #[], attributes := #[] }
def k11m2 : Method := { name := "grow", desc := "()[Ljava/lang/Object;", sig := { parameters := [], returnType := some (.array (.object "java/lang/Object")) }, accessFlags := 2, code := some k11c2 }
def k11c3 : Code := { maxStack := 3, maxLocals := 4, code := jdk_38_method_24_code, exceptionTable := #[], attributes := #[] }
def k11m3 : Method := { name := "add", desc := "(Ljava/lang/Object;[Ljava/lang/Object;I)V", sig := { parameters := [(.object "java/lang/Object"), (.array (.object "java/lang/Object")), .int], returnType := none }, accessFlags := 2, code := some k11c3 }
def k11c4 : Code := { maxStack := 4, maxLocals := 2, code := jdk_38_method_25_code, exceptionTable := #[], attributes := #[] }
def k11m4 : Method := { name := "add", desc := "(Ljava/lang/Object;)Z", sig := { parameters := [(.object "java/lang/Object")], returnType := some .boolean }, accessFlags := 1, code := some k11c4 }
/-- java/util/ArrayList -/
def k11 : Class := { plain "java/util/ArrayList" (some 7) with
  accessFlags := 33
  interfaces := #[6, 8, 9, 10]
  cf := some (fileOf pool11 10 #[.nestMembers #[290, 276, 500, 502, 262, 267]] #[{ accessFlags := 1, nameIndex := 5, descriptorIndex := 6, attributes := #[] }, { accessFlags := 2, nameIndex := 71, descriptorIndex := 72, attributes := #[] }, { accessFlags := 2, nameIndex := 71, descriptorIndex := 47, attributes := #[] }, { accessFlags := 2, nameIndex := 133, descriptorIndex := 134, attributes := #[] }, { accessFlags := 1, nameIndex := 133, descriptorIndex := 96, attributes := #[] }] 33 2 #[148, 329, 331, 333] #[{ accessFlags := 26, nameIndex := 335, descriptorIndex := 336, attributes := #[] }, { accessFlags := 26, nameIndex := 340, descriptorIndex := 51, attributes := #[] }, { accessFlags := 26, nameIndex := 17, descriptorIndex := 14, attributes := #[] }, { accessFlags := 26, nameIndex := 41, descriptorIndex := 14, attributes := #[] }, { accessFlags := 128, nameIndex := 13, descriptorIndex := 14, attributes := #[] }, { accessFlags := 2, nameIndex := 50, descriptorIndex := 51, attributes := #[] }])
  fields := #[{ name := "serialVersionUID", type := .long, accessFlags := 26, slot := 0, constantValue := 0 }, { name := "DEFAULT_CAPACITY", type := .int, accessFlags := 26, slot := 1, constantValue := 0 }, { name := "EMPTY_ELEMENTDATA", type := (.array (.object "java/lang/Object")), accessFlags := 26, slot := 2, constantValue := 0 }, { name := "DEFAULTCAPACITY_EMPTY_ELEMENTDATA", type := (.array (.object "java/lang/Object")), accessFlags := 26, slot := 3, constantValue := 0 }, { name := "elementData", type := (.array (.object "java/lang/Object")), accessFlags := 128, slot := 1, constantValue := 0 }, { name := "size", type := .int, accessFlags := 2, slot := 2, constantValue := 0 }]
  methods := #[k11m0, k11m1, k11m2, k11m3, k11m4]
  instanceTypes := #[.int, (.array (.object "java/lang/Object")), .int]
  staticTypes := #[.long, .int, (.array (.object "java/lang/Object")), (.array (.object "java/lang/Object"))]
  resolved := Array.replicate 509 none
  statics := some 0 }

def pool12 : Array CpInfo := pool [(1, .methodref 2 3), (0, .class_ 4), (0, .nameAndType 5 6), (0, u "java/lang/Object"), (0, u "<init>"), (0, u "()V"), (0, .class_ 8), (0, u "java/lang/Record")] 13

def k12c0 : Code := { maxStack := 1, maxLocals := 1, code := jdk_30_method_1_code, exceptionTable := #[], attributes := #[] }
def k12m0 : Method := { name := "<init>", desc := "()V", sig := { parameters := [], returnType := none }, accessFlags := 4, code := some k12c0 }
/-- java/lang/Record -/
def k12 : Class := { plain "java/lang/Record" (some 0) with
  accessFlags := 1057
  interfaces := #[]
  cf := some (fileOf pool12 7 #[] #[{ accessFlags := 4, nameIndex := 5, descriptorIndex := 6, attributes := #[] }] 1057 2 #[] #[])
  fields := #[]
  methods := #[k12m0]
  instanceTypes := #[]
  staticTypes := #[]
  resolved := Array.replicate 22 none
  statics := none }

def pool13 : Array CpInfo := pool [(1, .methodref 2 3), (0, .class_ 4), (0, .nameAndType 5 6), (0, u "java/lang/Record"), (0, u "<init>"), (0, u "()V"), (0, .fieldref 8 9), (0, .class_ 10), (0, .nameAndType 11 12), (0, u "com/example/langouste/langouste/quorum/Member"), (0, u "id"), (0, u "J"), (0, .fieldref 8 14), (0, .nameAndType 15 16), (0, u "quorumAddress"), (0, u "Ljava/net/InetSocketAddress;"), (0, .fieldref 8 18), (0, .nameAndType 19 16), (0, u "electionAddress"), (12, u "(JLjava/net/InetSocketAddress;Ljava/net/InetSocketAddress;)V")] 30

def k13c0 : Code := { maxStack := 3, maxLocals := 5, code := prog_38_method_1_code, exceptionTable := #[], attributes := #[] }
def k13m0 : Method := { name := "<init>", desc := "(JLjava/net/InetSocketAddress;Ljava/net/InetSocketAddress;)V", sig := { parameters := [.long, (.object "java/net/InetSocketAddress"), (.object "java/net/InetSocketAddress")], returnType := none }, accessFlags := 1, code := some k13c0 }
/-- com/example/langouste/langouste/quorum/Member -/
def k13 : Class := { plain "com/example/langouste/langouste/quorum/Member" (some 12) with
  accessFlags := 49
  interfaces := #[]
  cf := some (fileOf pool13 8 #[] #[{ accessFlags := 1, nameIndex := 5, descriptorIndex := 32, attributes := #[] }] 49 2 #[] #[{ accessFlags := 18, nameIndex := 11, descriptorIndex := 12, attributes := #[] }, { accessFlags := 18, nameIndex := 15, descriptorIndex := 16, attributes := #[] }, { accessFlags := 18, nameIndex := 19, descriptorIndex := 16, attributes := #[] }])
  fields := #[{ name := "id", type := .long, accessFlags := 18, slot := 0, constantValue := 0 }, { name := "quorumAddress", type := (.object "java/net/InetSocketAddress"), accessFlags := 18, slot := 1, constantValue := 0 }, { name := "electionAddress", type := (.object "java/net/InetSocketAddress"), accessFlags := 18, slot := 2, constantValue := 0 }]
  methods := #[k13m0]
  instanceTypes := #[.long, (.object "java/net/InetSocketAddress"), (.object "java/net/InetSocketAddress")]
  staticTypes := #[]
  resolved := Array.replicate 63 none
  statics := none }

def pool14 : Array CpInfo := pool [(1, .class_ 2), (0, u "java/lang/Math"), (1, .class_ 6), (1, u "java/lang/Object"), (0, u "<init>"), (0, u "()V"), (89, .class_ 100), (1, u "java/lang/Math$RandomNumberGeneratorHolder"), (71, u "negativeZeroFloatBits"), (0, u "J"), (2, u "negativeZeroDoubleBits"), (21, u "max"), (46, u "$assertionsDisabled"), (0, u "Z"), (88, u "(II)I"), (2, u "twoToTheDoubleScaleDown"), (0, u "D"), (4, u "twoToTheDoubleScaleUp"), (9, u "E"), (3, u "PI"), (2, u "TAU"), (2, u "DEGREES_TO_RADIANS"), (0, u "RADIANS_TO_DEGREES")] 94

def k14m0 : Method := { name := "<init>", desc := "()V", sig := { parameters := [], returnType := none }, accessFlags := 2, code := none }
def k14c1 : Code := { maxStack := 2, maxLocals := 2, code := jdk_29_method_65_code, exceptionTable := #[], attributes := #[] }
def k14m1 : Method := { name := "max", desc := "(II)I", sig := { parameters := [.int, .int], returnType := some .int }, accessFlags := 9, code := some k14c1 }
/-- java/lang/Math -/
def k14 : Class := { plain "java/lang/Math" (some 0) with
  accessFlags := 49
  interfaces := #[]
  cf := some (fileOf pool14 1 #[.nestMembers #[98]] #[{ accessFlags := 2, nameIndex := 7, descriptorIndex := 8, attributes := #[] }, { accessFlags := 9, nameIndex := 198, descriptorIndex := 335, attributes := #[] }] 49 4 #[] #[{ accessFlags := 25, nameIndex := 354, descriptorIndex := 339, attributes := #[] }, { accessFlags := 25, nameIndex := 358, descriptorIndex := 339, attributes := #[] }, { accessFlags := 25, nameIndex := 361, descriptorIndex := 339, attributes := #[] }, { accessFlags := 26, nameIndex := 364, descriptorIndex := 339, attributes := #[] }, { accessFlags := 26, nameIndex := 365, descriptorIndex := 339, attributes := #[] }, { accessFlags := 26, nameIndex := 172, descriptorIndex := 173, attributes := #[] }, { accessFlags := 26, nameIndex := 176, descriptorIndex := 173, attributes := #[] }, { accessFlags := 8, nameIndex := 344, descriptorIndex := 339, attributes := #[] }, { accessFlags := 8, nameIndex := 338, descriptorIndex := 339, attributes := #[] }, { accessFlags := 4120, nameIndex := 245, descriptorIndex := 246, attributes := #[] }])
  fields := #[{ name := "E", type := .double, accessFlags := 25, slot := 0, constantValue := 0 }, { name := "PI", type := .double, accessFlags := 25, slot := 1, constantValue := 0 }, { name := "TAU", type := .double, accessFlags := 25, slot := 2, constantValue := 0 }, { name := "DEGREES_TO_RADIANS", type := .double, accessFlags := 26, slot := 3, constantValue := 0 }, { name := "RADIANS_TO_DEGREES", type := .double, accessFlags := 26, slot := 4, constantValue := 0 }, { name := "negativeZeroFloatBits", type := .long, accessFlags := 26, slot := 5, constantValue := 0 }, { name := "negativeZeroDoubleBits", type := .long, accessFlags := 26, slot := 6, constantValue := 0 }, { name := "twoToTheDoubleScaleUp", type := .double, accessFlags := 8, slot := 7, constantValue := 0 }, { name := "twoToTheDoubleScaleDown", type := .double, accessFlags := 8, slot := 8, constantValue := 0 }, { name := "$assertionsDisabled", type := .boolean, accessFlags := 4120, slot := 9, constantValue := 0 }]
  methods := #[k14m0, k14m1]
  instanceTypes := #[]
  staticTypes := #[.double, .double, .double, .double, .double, .long, .long, .double, .double, .boolean]
  resolved := Array.replicate 460 none
  statics := none }

def pool15 : Array CpInfo := pool [(1, .methodref 2 3), (0, .class_ 4), (0, .nameAndType 5 6), (0, u "java/lang/Record"), (0, u "<init>"), (0, u "()V"), (0, .fieldref 8 9), (0, .class_ 10), (0, .nameAndType 11 12), (0, u "com/example/langouste/langouste/quorum/Ensemble"), (0, u "myId"), (0, u "J"), (0, .fieldref 8 14), (0, .nameAndType 15 16), (0, u "members"), (0, u "Ljava/util/List;"), (0, .fieldref 8 18), (0, .nameAndType 19 20), (0, u "tickTime"), (0, u "I"), (0, .fieldref 8 22), (0, .nameAndType 23 20), (0, u "initLimit"), (0, .fieldref 8 25), (0, .nameAndType 26 20), (0, u "syncLimit"), (25, u "()J"), (14, u "(JLjava/util/List;III)V"), (8, u "initLimitMillis")] 29

def k15c0 : Code := { maxStack := 3, maxLocals := 7, code := prog_29_method_1_code, exceptionTable := #[], attributes := #[] }
def k15m0 : Method := { name := "<init>", desc := "(JLjava/util/List;III)V", sig := { parameters := [.long, (.object "java/util/List"), .int, .int, .int], returnType := none }, accessFlags := 1, code := some k15c0 }
def k15c1 : Code := { maxStack := 4, maxLocals := 1, code := prog_29_method_4_code, exceptionTable := #[], attributes := #[] }
def k15m1 : Method := { name := "initLimitMillis", desc := "()J", sig := { parameters := [], returnType := some .long }, accessFlags := 0, code := some k15c1 }
/-- com/example/langouste/langouste/quorum/Ensemble -/
def k15 : Class := { plain "com/example/langouste/langouste/quorum/Ensemble" (some 12) with
  accessFlags := 49
  interfaces := #[]
  cf := some (fileOf pool15 8 #[] #[{ accessFlags := 1, nameIndex := 5, descriptorIndex := 67, attributes := #[] }, { accessFlags := 0, nameIndex := 76, descriptorIndex := 52, attributes := #[] }] 49 2 #[] #[{ accessFlags := 18, nameIndex := 11, descriptorIndex := 12, attributes := #[] }, { accessFlags := 18, nameIndex := 15, descriptorIndex := 16, attributes := #[] }, { accessFlags := 18, nameIndex := 19, descriptorIndex := 20, attributes := #[] }, { accessFlags := 18, nameIndex := 23, descriptorIndex := 20, attributes := #[] }, { accessFlags := 18, nameIndex := 26, descriptorIndex := 20, attributes := #[] }])
  fields := #[{ name := "myId", type := .long, accessFlags := 18, slot := 0, constantValue := 0 }, { name := "members", type := (.object "java/util/List"), accessFlags := 18, slot := 1, constantValue := 0 }, { name := "tickTime", type := .int, accessFlags := 18, slot := 2, constantValue := 0 }, { name := "initLimit", type := .int, accessFlags := 18, slot := 3, constantValue := 0 }, { name := "syncLimit", type := .int, accessFlags := 18, slot := 4, constantValue := 0 }]
  methods := #[k15m0, k15m1]
  instanceTypes := #[.long, (.object "java/util/List"), .int, .int, .int]
  staticTypes := #[]
  resolved := Array.replicate 106 none
  statics := none }

/-- the primitive byte -/
def k16 : Class := { plain "byte" none with kind := .primitive 'B', accessFlags := 0x411 }
/-- [B -/
def k17 : Class := { plain "[B" (some 0) with kind := .array 16 .byte, interfaces := #[9, 10], accessFlags := 1041 }

/-- the primitive int -/
def k18 : Class := { plain "int" none with kind := .primitive 'I', accessFlags := 0x411 }
/-- [I -/
def k19 : Class := { plain "[I" (some 0) with kind := .array 18 .int, interfaces := #[9, 10], accessFlags := 1041 }

/-- [Ljava/lang/Object; -/
def k20 : Class := { plain "[Ljava/lang/Object;" (some 0) with kind := .array 0 (.object "java/lang/Object"), interfaces := #[9, 10], accessFlags := 1041 }

def heap : Heap := #[{ cls := 11, slots := #[.long 0, .int 0, .ref 1, .ref 2], vm := .statics 11 },
  { cls := 20, slots := #[], vm := .none },
  { cls := 20, slots := #[], vm := .none }]
def classes : Array Class := #[k0, k1, k2, k3, k4, k5, k6, k7, k8, k9, k10, k11, k12, k13, k14, k15, k16, k17, k18, k19, k20]
def interned : List (Array UInt16 × Addr) := []
def slotsUsed : Nat := 4
def theMethod : MethodId := ⟨1, 1⟩
def args0 : Array Value := #[.long 5, .int 7, .int 2, .int 3]
def aboutOver (below : List Frame) : State where
  vm := { classes := classes, interned := interned.toArray }
  heap := heap
  slotsUsed := slotsUsed
  threads := #[{ frames := .invoking theMethod args0 :: below }]
def below0 : List Frame := [.native { method := ⟨0, 0⟩, args := #[] }]
def about1 : State := aboutOver below0
def p0 : Program := .bare "" "" ""
def e0 : Env := launch0.env 0 0 0
theorem w_frames : about1.frames = Frame.invoking theMethod args0 :: below0 := rfl
set_option maxRecDepth 65536 in
theorem w_args : argsFit about1.vm theMethod args0 = true := by decide +kernel
set_option maxRecDepth 65536 in
theorem w_heap : heapFits about1 = true := by decide +kernel
set_option maxRecDepth 65536 in
theorem w_runnable : about1.curStatus? = some .runnable := by decide +kernel
set_option maxRecDepth 65536 in
theorem w_alone : about1.alone = true := by decide +kernel
set_option maxRecDepth 65536 in
theorem w_named : about1.methodNamed? x = some theMethod := by decide +kernel
set_option maxRecDepth 65536 in
theorem w_hears : about1.hears theMethod below0 = true := by decide +kernel
set_option maxRecDepth 65536 in
theorem w_ripe : about1.ripe theMethod args0 below0 = true := by decide +kernel
theorem w_running : about1.status = .running := rfl
set_option maxRecDepth 65536 in
theorem w_room : about1.hasRoom e0.platform room_1 = true :=
  launch0.hasRoom_least _ room_1 (by decide +kernel) (by decide +kernel) (by decide +kernel) (by decide +kernel) (by decide +kernel) (by decide +kernel)
theorem allAtoms_all (ts : List Jvm.Cond) (a : Array Jvm.Value) (st : Jvm.State) : (allAtoms ts).before a st = ts.all (fun c => c.before a st) := by
  induction ts with
  | nil => rfl
  | cons c t ih =>
    show (Jvm.Cond.and c (allAtoms t)).before a st = _
    rw [Jvm.Cond.before_and, ih, List.all_cons]
def words1 : List Jvm.Cond := Jvm.Cond.code x code maxLocals ret :: tables_1
/-- a 'code' word, met by the world's own term for the bytes: nothing is compared byte by byte -/
theorem code_word {y : MethodName} {bytes : ByteArray} {mx : Nat} {rt : Option FieldType} {a : Array Value} {s : State} {m : MethodId} {meth : Method} {c : Code} (h1 : s.methodNamed? y = some m) (h2 : s.vm.method? m = some meth) (h3 : meth.code = some c) (h4 : c.code = bytes)
    (h5 : (c.maxLocals == mx && c.exceptionTable.isEmpty && decide (c.maxStack ≤ mostOperands) && decide (meth.sig.returnType = rt) && !meth.locks && decide (parseMethodDescriptor y.desc = some meth.sig)) = true) : (Jvm.Cond.code y bytes mx rt).before a s = true := by
  simp only [Bool.and_eq_true, beq_iff_eq, Bool.not_eq_true', decide_eq_true_eq] at h5
  obtain ⟨⟨⟨⟨⟨g1, g2⟩, g3⟩, g4⟩, g5⟩, g6⟩ := h5
  simp [Cond.before, Cond.holds, Cond.value, h1, h2, h3, h4, g1, g2, g3, g4, g5, g6]
def isCode : Jvm.Cond → Bool
  | .code _ _ _ _ => true
  | _ => false
theorem all_split {L : List Jvm.Cond} {P : Jvm.Cond → Bool} (h1 : L.all (fun c => isCode c || P c) = true) (h2 : ∀ c ∈ L.filter isCode, P c = true) : L.all P = true := by
  refine List.all_eq_true.mpr fun c hc => ?_
  have h := List.all_eq_true.mp h1 c hc
  rcases Bool.eq_false_or_eq_true (isCode c) with hi | hi
  · exact h2 c (List.mem_filter.mpr ⟨hc, hi⟩)
  · simpa [hi] using h
set_option maxRecDepth 65536 in
theorem w_c0 : (Jvm.Cond.code x code maxLocals ret).before args0 about1 = true := code_word (m := ⟨1, 1⟩) (meth := k1m1) (c := k1c1) (by decide +kernel) rfl rfl rfl (by decide +kernel)
set_option maxRecDepth 65536 in
theorem w_c1 : (Jvm.Cond.code ({ cls := "java/util/ArrayList", name := "<init>", desc := "()V" } : Jvm.MethodName) jdk_38_method_2_code (1 : Nat) (Option.none : Option Jvm.ClassFile.FieldType)).before args0 about1 = true := code_word (m := ⟨11, 0⟩) (meth := k11m0) (c := k11c0) (by decide +kernel) rfl rfl rfl (by decide +kernel)
set_option maxRecDepth 65536 in
theorem w_c2 : (Jvm.Cond.code ({ cls := "java/util/AbstractList", name := "<init>", desc := "()V" } : Jvm.MethodName) jdk_39_method_1_code (1 : Nat) (Option.none : Option Jvm.ClassFile.FieldType)).before args0 about1 = true := code_word (m := ⟨7, 0⟩) (meth := k7m0) (c := k7c0) (by decide +kernel) rfl rfl rfl (by decide +kernel)
set_option maxRecDepth 65536 in
theorem w_c3 : (Jvm.Cond.code ({ cls := "java/util/AbstractCollection", name := "<init>", desc := "()V" } : Jvm.MethodName) jdk_22_method_1_code (1 : Nat) (Option.none : Option Jvm.ClassFile.FieldType)).before args0 about1 = true := code_word (m := ⟨4, 0⟩) (meth := k4m0) (c := k4c0) (by decide +kernel) rfl rfl rfl (by decide +kernel)
set_option maxRecDepth 65536 in
theorem w_c4 : (Jvm.Cond.code ({ cls := "java/lang/Object", name := "<init>", desc := "()V" } : Jvm.MethodName) object_method_1_code (1 : Nat) (Option.none : Option Jvm.ClassFile.FieldType)).before args0 about1 = true := code_word (m := ⟨0, 0⟩) (meth := k0m0) (c := k0c0) (by decide +kernel) rfl rfl rfl (by decide +kernel)
set_option maxRecDepth 65536 in
theorem w_c5 : (Jvm.Cond.code ({ cls := "com/example/langouste/langouste/quorum/Member", name := "<init>", desc := "(JLjava/net/InetSocketAddress;Ljava/net/InetSocketAddress;)V" } : Jvm.MethodName) prog_38_method_1_code (5 : Nat) (Option.none : Option Jvm.ClassFile.FieldType)).before args0 about1 = true := code_word (m := ⟨13, 0⟩) (meth := k13m0) (c := k13c0) (by decide +kernel) rfl rfl rfl (by decide +kernel)
set_option maxRecDepth 65536 in
theorem w_c6 : (Jvm.Cond.code ({ cls := "java/lang/Record", name := "<init>", desc := "()V" } : Jvm.MethodName) jdk_30_method_1_code (1 : Nat) (Option.none : Option Jvm.ClassFile.FieldType)).before args0 about1 = true := code_word (m := ⟨12, 0⟩) (meth := k12m0) (c := k12c0) (by decide +kernel) rfl rfl rfl (by decide +kernel)
set_option maxRecDepth 65536 in
theorem w_c7 : (Jvm.Cond.code ({ cls := "java/util/ArrayList", name := "add", desc := "(Ljava/lang/Object;)Z" } : Jvm.MethodName) jdk_38_method_25_code (2 : Nat) (Option.some Jvm.ClassFile.FieldType.boolean)).before args0 about1 = true := code_word (m := ⟨11, 4⟩) (meth := k11m4) (c := k11c4) (by decide +kernel) rfl rfl rfl (by decide +kernel)
set_option maxRecDepth 65536 in
theorem w_c8 : (Jvm.Cond.code ({ cls := "java/util/ArrayList", name := "add", desc := "(Ljava/lang/Object;[Ljava/lang/Object;I)V" } : Jvm.MethodName) jdk_38_method_24_code (4 : Nat) (Option.none : Option Jvm.ClassFile.FieldType)).before args0 about1 = true := code_word (m := ⟨11, 3⟩) (meth := k11m3) (c := k11c3) (by decide +kernel) rfl rfl rfl (by decide +kernel)
set_option maxRecDepth 65536 in
theorem w_c9 : (Jvm.Cond.code ({ cls := "java/util/ArrayList", name := "grow", desc := "()[Ljava/lang/Object;" } : Jvm.MethodName) jdk_38_method_7_code (1 : Nat) (Option.some (Jvm.ClassFile.FieldType.array (Jvm.ClassFile.FieldType.object "java/lang/Object")))).before args0 about1 = true := code_word (m := ⟨11, 2⟩) (meth := k11m2) (c := k11c2) (by decide +kernel) rfl rfl rfl (by decide +kernel)
set_option maxRecDepth 65536 in
theorem w_c10 : (Jvm.Cond.code ({ cls := "java/util/ArrayList", name := "grow", desc := "(I)[Ljava/lang/Object;" } : Jvm.MethodName) jdk_38_method_6_code (4 : Nat) (Option.some (Jvm.ClassFile.FieldType.array (Jvm.ClassFile.FieldType.object "java/lang/Object")))).before args0 about1 = true := code_word (m := ⟨11, 1⟩) (meth := k11m1) (c := k11c1) (by decide +kernel) rfl rfl rfl (by decide +kernel)
set_option maxRecDepth 65536 in
theorem w_c11 : (Jvm.Cond.code ({ cls := "java/lang/Math", name := "max", desc := "(II)I" } : Jvm.MethodName) jdk_29_method_65_code (2 : Nat) (Option.some Jvm.ClassFile.FieldType.int)).before args0 about1 = true := code_word (m := ⟨14, 1⟩) (meth := k14m1) (c := k14c1) (by decide +kernel) rfl rfl rfl (by decide +kernel)
set_option maxRecDepth 65536 in
theorem w_c12 : (Jvm.Cond.code ({ cls := "com/example/langouste/langouste/quorum/Ensemble", name := "<init>", desc := "(JLjava/util/List;III)V" } : Jvm.MethodName) prog_29_method_1_code (7 : Nat) (Option.none : Option Jvm.ClassFile.FieldType)).before args0 about1 = true := code_word (m := ⟨15, 0⟩) (meth := k15m0) (c := k15c0) (by decide +kernel) rfl rfl rfl (by decide +kernel)
set_option maxRecDepth 65536 in
theorem w_c13 : (Jvm.Cond.code ({ cls := "com/example/langouste/langouste/quorum/Ensemble", name := "initLimitMillis", desc := "()J" } : Jvm.MethodName) prog_29_method_4_code (1 : Nat) (Option.some Jvm.ClassFile.FieldType.long)).before args0 about1 = true := code_word (m := ⟨15, 1⟩) (meth := k15m1) (c := k15c1) (by decide +kernel) rfl rfl rfl (by decide +kernel)
def codes1 : List Jvm.Cond := [Jvm.Cond.code x code maxLocals ret, Jvm.Cond.code ({ cls := "java/util/ArrayList", name := "<init>", desc := "()V" } : Jvm.MethodName) jdk_38_method_2_code (1 : Nat) (Option.none : Option Jvm.ClassFile.FieldType), Jvm.Cond.code ({ cls := "java/util/AbstractList", name := "<init>", desc := "()V" } : Jvm.MethodName) jdk_39_method_1_code (1 : Nat) (Option.none : Option Jvm.ClassFile.FieldType), Jvm.Cond.code ({ cls := "java/util/AbstractCollection", name := "<init>", desc := "()V" } : Jvm.MethodName) jdk_22_method_1_code (1 : Nat) (Option.none : Option Jvm.ClassFile.FieldType), Jvm.Cond.code ({ cls := "java/lang/Object", name := "<init>", desc := "()V" } : Jvm.MethodName) object_method_1_code (1 : Nat) (Option.none : Option Jvm.ClassFile.FieldType), Jvm.Cond.code ({ cls := "com/example/langouste/langouste/quorum/Member", name := "<init>", desc := "(JLjava/net/InetSocketAddress;Ljava/net/InetSocketAddress;)V" } : Jvm.MethodName) prog_38_method_1_code (5 : Nat) (Option.none : Option Jvm.ClassFile.FieldType), Jvm.Cond.code ({ cls := "java/lang/Record", name := "<init>", desc := "()V" } : Jvm.MethodName) jdk_30_method_1_code (1 : Nat) (Option.none : Option Jvm.ClassFile.FieldType), Jvm.Cond.code ({ cls := "java/util/ArrayList", name := "add", desc := "(Ljava/lang/Object;)Z" } : Jvm.MethodName) jdk_38_method_25_code (2 : Nat) (Option.some Jvm.ClassFile.FieldType.boolean), Jvm.Cond.code ({ cls := "java/util/ArrayList", name := "add", desc := "(Ljava/lang/Object;[Ljava/lang/Object;I)V" } : Jvm.MethodName) jdk_38_method_24_code (4 : Nat) (Option.none : Option Jvm.ClassFile.FieldType), Jvm.Cond.code ({ cls := "java/util/ArrayList", name := "grow", desc := "()[Ljava/lang/Object;" } : Jvm.MethodName) jdk_38_method_7_code (1 : Nat) (Option.some (Jvm.ClassFile.FieldType.array (Jvm.ClassFile.FieldType.object "java/lang/Object"))), Jvm.Cond.code ({ cls := "java/util/ArrayList", name := "grow", desc := "(I)[Ljava/lang/Object;" } : Jvm.MethodName) jdk_38_method_6_code (4 : Nat) (Option.some (Jvm.ClassFile.FieldType.array (Jvm.ClassFile.FieldType.object "java/lang/Object"))), Jvm.Cond.code ({ cls := "java/lang/Math", name := "max", desc := "(II)I" } : Jvm.MethodName) jdk_29_method_65_code (2 : Nat) (Option.some Jvm.ClassFile.FieldType.int), Jvm.Cond.code ({ cls := "com/example/langouste/langouste/quorum/Ensemble", name := "<init>", desc := "(JLjava/util/List;III)V" } : Jvm.MethodName) prog_29_method_1_code (7 : Nat) (Option.none : Option Jvm.ClassFile.FieldType), Jvm.Cond.code ({ cls := "com/example/langouste/langouste/quorum/Ensemble", name := "initLimitMillis", desc := "()J" } : Jvm.MethodName) prog_29_method_4_code (1 : Nat) (Option.some Jvm.ClassFile.FieldType.long)]
set_option maxRecDepth 65536 in
theorem codes_eq : words1.filter isCode = codes1 := rfl
theorem w_codes : ∀ c ∈ words1.filter isCode, c.before args0 about1 = true := by
  rw [codes_eq]
  intro c hc
  simp only [codes1, List.mem_cons, List.not_mem_nil, or_false] at hc
  rcases hc with rfl | rfl | rfl | rfl | rfl | rfl | rfl | rfl | rfl | rfl | rfl | rfl | rfl | rfl
  · exact w_c0
  · exact w_c1
  · exact w_c2
  · exact w_c3
  · exact w_c4
  · exact w_c5
  · exact w_c6
  · exact w_c7
  · exact w_c8
  · exact w_c9
  · exact w_c10
  · exact w_c11
  · exact w_c12
  · exact w_c13
set_option maxRecDepth 65536 in
theorem w_t1 : (words1.take 24).all (fun c => isCode c || c.before args0 about1) = true := by decide +kernel
set_option maxRecDepth 65536 in
theorem w_t2 : ((words1.drop 24).take 24).all (fun c => isCode c || c.before args0 about1) = true := by decide +kernel
set_option maxRecDepth 65536 in
theorem w_t3 : (((words1.drop 24).drop 24).take 24).all (fun c => isCode c || c.before args0 about1) = true := by decide +kernel
set_option maxRecDepth 65536 in
theorem w_t4 : ((((words1.drop 24).drop 24).drop 24).take 24).all (fun c => isCode c || c.before args0 about1) = true := by decide +kernel
set_option maxRecDepth 65536 in
theorem w_t5 : ((((words1.drop 24).drop 24).drop 24).drop 24).all (fun c => isCode c || c.before args0 about1) = true := by decide +kernel
theorem w_tables : (allAtoms (Jvm.Cond.code x code maxLocals ret :: tables_1)).before args0 about1 = true := by
  rw [allAtoms_all]
  show words1.all (fun c => c.before args0 about1) = true
  refine all_split ?_ w_codes
  rw [← List.take_append_drop 24 words1, List.all_append, w_t1, ← List.take_append_drop 24 (words1.drop 24), List.all_append, w_t2, ← List.take_append_drop 24 ((words1.drop 24).drop 24), List.all_append, w_t3, ← List.take_append_drop 24 (((words1.drop 24).drop 24).drop 24), List.all_append, w_t4, w_t5]
  rfl
set_option maxRecDepth 65536 in
theorem w_rest : rest_1_c.before args0 about1 = true := by decide +kernel
set_option maxRecDepth 65536 in
theorem w_case : (Jvm.Cond.and given_1 narrow_1).before args0 about1 = true := by decide +kernel
theorem w_applies : (headSpec (Jvm.Cond.code x code maxLocals ret :: tables_1) room_1).applies x e0.platform about1 = true :=
  (Spec.applies_iff w_frames).mpr ⟨w_running, w_runnable, w_alone, w_named, w_hears, w_ripe, w_room, w_tables⟩
theorem atStart : AtStart classFile x code maxLocals ret World_1 tables_1 room_1 Calls_1 rest_1 Pre_1 launch0 p0 e0 about1 theMethod args0 below0 :=
  ⟨lists_1, trivial, launch0.admits_env _ _ _, launch0.least_env, fairChoices_fair.cas, fairChoices_fair.clock, w_frames, w_args, w_heap, w_applies, trivial, w_rest, w_case⟩
end start1
theorem witness_1 : WitnessClaimed_1 := ⟨start1.p0, start1.e0, start1.about1, start1.theMethod, start1.args0, start1.below0, start1.atStart⟩
end Jvm.Pilot.@@N@@
