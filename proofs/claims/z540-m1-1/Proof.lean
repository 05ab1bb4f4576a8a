import JvmDerived
import JvmDerived.Pilot.@@N@@Statement
import JvmDerived.Pilot.@@N@@Code
set_option linter.unusedVariables false
set_option linter.unusedSimpArgs false
@@BLOCK:NumsL.lean.txt@@
namespace Jvm.Pilot.@@N@@
open Jvm Jvm.ClassFile Sem Op Lib Jvm.Free Jvm.Stand Jvm.LawKit Jvm.RoadKit Bundle Jvm.Pilot.@@N@@.Jvm.D
section Own
variable {p : Program} {l : Launch} {e : Env} {R : Room} {s : State} {m : MethodId} {args : Array Value} {below : List Frame} {meth : Method} {c : Code} {Z : State} {a0 : Array Value} {own nm : String} {bs : ByteArray} {ml : Nat} {rt : Option FieldType} {n0 kc ks : Nat} {Q : Option Value → Heap → Prop} {F : Outcome → State → Prop} {T : State} {h : Heap} {k n : Nat} {pc pc' pc2 : Nat} {ls ls' : Array Slot} {st : List Value}
/-- all that a walk knows where it stands -/
def Here (p : Program) (l : Launch) (e : Env) (R : Room) (s : State) (m : MethodId) (args : Array Value) (below : List Frame) (meth : Method) (c : Code) (Z : State) (own nm : String) (bs : ByteArray) (ml : Nat) (rt : Option FieldType) (n0 : Nat) (T : State) (h : Heap) (k n : Nat) : Prop :=
  (p.tables.exec = Jvm.exec ∧ c.code = bs ∧ c.maxLocals = ml ∧ Z.Warmed39 s.vm ∧ s.vm.findClass own = some m.cls ∧ meth.name = nm ∧ meth.sig.returnType = rt ∧ meth.locks = false) ∧ n0 ≤ h.size ∧ T.heap = h ∧ ∃ locs, Stand p l e R s m args below meth c T locs k n ∧ Fr n0 locs
/-- from here the method returns, as Q says -/
def Run (p : Program) (e : Env) (below : List Frame) (F : Outcome → State → Prop) (T : State) (g : JFrame) : Prop :=
  ∃ s₂ o, Steps p.tables e below (T.setTop g) s₂ ∧ s₂.status = .running ∧ Ended s₂ below o ∧ F o s₂
/-- what a body's end owes -/
def Fnl (s : State) (n0 kc ks : Nat) (Q : Option Value → Heap → Prop) (o : Outcome) (s₂ : State) : Prop := ∃ v L, o = .returned v ∧ (Q v s₂.heap ∧ n0 ≤ s₂.heap.size ∧ Fr n0 L) ∧ FrameEnd s o s₂ L kc ks
/-- a body's contract -/
def Con (l : Launch) (Z : State) (y : MethodName) (bs : ByteArray) (ml : Nat) (rt : Option FieldType) (rm : Room) (as : Array Value) (h0 : Heap) (n0 kc ks : Nat) (Q : Option Value → Heap → Prop) : Prop :=
  ∀ ws, MetFree l y (head1 (Jvm.Cond.code y bs ml rt :: ws) rm) (fun a U => a = as ∧ Z.Warmed39 U.vm ∧ U.heap = h0) (fun _ _ _ _ _ => True) (fun _ U o U' => ∃ v L, o = .returned v ∧ (Q v U'.heap ∧ n0 ≤ U'.heap.size ∧ Fr n0 L) ∧ FrameEnd U o U' L kc ks)
theorem Run.of {T' : State} {g g' : JFrame} (q : ∀ t, Steps p.tables e below (T'.setTop g') t → Steps p.tables e below (T.setTop g) t) (r : Run p e below F T' g') : Run p e below F T g := by
  obtain ⟨s₂, o, w, r⟩ := r; exact ⟨s₂, o, q _ w, r⟩
theorem Con.of_body {y : MethodName} {rm : Room} {as : Array Value} (hp : plainName y.cls = true) (hef : ∀ m, entryFrame m as ml = mkF m 0 ls []) (Z0 : n0 ≤ h.size)
    (body : ∀ p e s m below meth c T, Here p l e rm s m as below meth c Z y.cls y.name bs ml rt n0 T h 0 0 → Run p e below (Fnl s n0 kc ks Q) T (mkF m 0 ls [])) : Con l Z y bs ml rt rm as h n0 kc ks Q := by
  intro ws
  refine MetFree.of_bodySF (plainFor_of_name hp) hisR ?_
  intro p e s m args below meth c s₁ Bd hml0 hP hK
  obtain ⟨rfl, hZ, hh⟩ := hP
  have e0 : s₁.heap = h := by rw [← hh, Bd.state]; rfl
  obtain ⟨s₂, o, q, r⟩ := body p e s m below meth c s₁ ⟨⟨Bd.exec, Bd.bytes, hml0, hZ, findClass_of_methodNamed Bd.named, (name_of_methodNamed Bd.named Bd.method).1, Bd.returns, Bd.notSynchronized⟩, Z0, e0, [], Stand.of_body Bd, Fr.nil n0⟩
  exact ⟨s₂, o, castTop (hef m) q, r⟩
theorem Here.sz (X : Here p l e R s m args below meth c Z own nm bs ml rt n0 T h k n) : n0 ≤ h.size := X.2.1
/-- the k-th word of the sheet -/
theorem wd (hw : ∀ d ∈ tables_1, d.before a0 Z = true) (i : Nat) {d : Jvm.Cond} (q : tables_1[i]? = some d) : d.before a0 Z = true := hw _ (List.mem_of_getElem? q)
def cnd : ClassFile.Cond → Int → Int → Prop
  | .eq, x, y => x = y
  | .ne, x, y => ¬ x = y
  | .lt, x, y => x < y
  | .ge, x, y => y ≤ x
  | .gt, x, y => y < x
  | .le, x, y => x ≤ y
theorem cnd_iff (cd : ClassFile.Cond) (x y : Int32) : if_icmp.holds cd x y = true ↔ cnd cd x.toInt y.toInt := by
  cases cd <;> simp [if_icmp.holds, cnd, Int32.lt_iff_toInt_lt, Int32.le_iff_toInt_le, ← Int32.toInt_inj]
theorem r_aloadN (X : Here p l e R s m args below meth c Z own nm bs ml rt n0 T h k n) {i : Fin 4} {a : Addr} (hd : decode bs pc = .ok (.aload_n i, 1)) (hl : ls[i.val]? = some (.val (.ref a))) (hp : pc + 1 = pc') (r : Run p e below F T (mkF m pc' ls (.ref a :: st))) : Run p e below F T (mkF m pc ls st) := by
  obtain ⟨⟨hx, hby, hml, hZ, hown, hnm, hret, hlk⟩, hs0, eT, locs, S, N⟩ := X
  subst hp
  exact Run.of (fun t q => XS.aloadN S.here hx rfl (hb hby hd) hl rfl q) r
theorem r_aload (X : Here p l e R s m args below meth c Z own nm bs ml rt n0 T h k n) {i : Nat} {a : Addr} (hd : decode bs pc = .ok (.aload i, 2)) (hl : ls[i]? = some (.val (.ref a))) (hp : pc + 2 = pc') (r : Run p e below F T (mkF m pc' ls (.ref a :: st))) : Run p e below F T (mkF m pc ls st) := by
  obtain ⟨⟨hx, hby, hml, hZ, hown, hnm, hret, hlk⟩, hs0, eT, locs, S, N⟩ := X
  subst hp
  exact Run.of (fun t q => XS.aload S.here hx rfl (hb hby hd) hl rfl q) r
theorem r_iloadN (X : Here p l e R s m args below meth c Z own nm bs ml rt n0 T h k n) {i : Fin 4} {v : Int32} (hd : decode bs pc = .ok (.iload_n i, 1)) (hl : ls[i.val]? = some (.val (.int v))) (hp : pc + 1 = pc') (r : Run p e below F T (mkF m pc' ls (.int v :: st))) : Run p e below F T (mkF m pc ls st) := by
  obtain ⟨⟨hx, hby, hml, hZ, hown, hnm, hret, hlk⟩, hs0, eT, locs, S, N⟩ := X
  subst hp
  exact Run.of (fun t q => XS.iloadN S.here hx rfl (hb hby hd) hl q) r
theorem r_iload (X : Here p l e R s m args below meth c Z own nm bs ml rt n0 T h k n) {i : Nat} {v : Int32} (hd : decode bs pc = .ok (.iload i, 2)) (hl : ls[i]? = some (.val (.int v))) (hp : pc + 2 = pc') (r : Run p e below F T (mkF m pc' ls (.int v :: st))) : Run p e below F T (mkF m pc ls st) := by
  obtain ⟨⟨hx, hby, hml, hZ, hown, hnm, hret, hlk⟩, hs0, eT, locs, S, N⟩ := X
  subst hp
  exact Run.of (fun t q => XS.iload S.here hx rfl (hb hby hd) hl q) r
theorem r_lloadN (X : Here p l e R s m args below meth c Z own nm bs ml rt n0 T h k n) {i : Fin 4} {v : Int64} (hd : decode bs pc = .ok (.lload_n i, 1)) (hl : ls[i.val]? = some (.val (.long v))) (hp : pc + 1 = pc') (r : Run p e below F T (mkF m pc' ls (.long v :: st))) : Run p e below F T (mkF m pc ls st) := by
  obtain ⟨⟨hx, hby, hml, hZ, hown, hnm, hret, hlk⟩, hs0, eT, locs, S, N⟩ := X
  subst hp
  exact Run.of (fun t q => XT.lloadN S.here hx rfl (hb hby hd) hl q) r
theorem r_lload (X : Here p l e R s m args below meth c Z own nm bs ml rt n0 T h k n) {i : Nat} {v : Int64} (hd : decode bs pc = .ok (.lload i, 2)) (hl : ls[i]? = some (.val (.long v))) (hp : pc + 2 = pc') (r : Run p e below F T (mkF m pc' ls (.long v :: st))) : Run p e below F T (mkF m pc ls st) := by
  obtain ⟨⟨hx, hby, hml, hZ, hown, hnm, hret, hlk⟩, hs0, eT, locs, S, N⟩ := X
  subst hp
  exact Run.of (fun t q => XT.lload S.here hx rfl (hb hby hd) hl q) r
theorem r_istoreN (X : Here p l e R s m args below meth c Z own nm bs ml rt n0 T h k n) {i : Fin 4} {v : Int32} (hd : decode bs pc = .ok (.istore_n i, 1)) (hl : storeLocals ls i.val (.int v) = some ls') (hp : pc + 1 = pc') (r : Run p e below F T (mkF m pc' ls' st)) : Run p e below F T (mkF m pc ls (.int v :: st)) := by
  obtain ⟨⟨hx, hby, hml, hZ, hown, hnm, hret, hlk⟩, hs0, eT, locs, S, N⟩ := X
  subst hp
  exact Run.of (fun t q => XS.istoreN S.here hx rfl (hb hby hd) rfl hl q) r
theorem r_istore (X : Here p l e R s m args below meth c Z own nm bs ml rt n0 T h k n) {i : Nat} {v : Int32} (hd : decode bs pc = .ok (.istore i, 2)) (hl : storeLocals ls i (.int v) = some ls') (hp : pc + 2 = pc') (r : Run p e below F T (mkF m pc' ls' st)) : Run p e below F T (mkF m pc ls (.int v :: st)) := by
  obtain ⟨⟨hx, hby, hml, hZ, hown, hnm, hret, hlk⟩, hs0, eT, locs, S, N⟩ := X
  subst hp
  exact Run.of (fun t q => XS.istore S.here hx rfl (hb hby hd) rfl hl q) r
theorem r_lstoreN (X : Here p l e R s m args below meth c Z own nm bs ml rt n0 T h k n) {i : Fin 4} {v : Int64} (hd : decode bs pc = .ok (.lstore_n i, 1)) (hl : storeLocals ls i.val (.long v) = some ls') (hp : pc + 1 = pc') (r : Run p e below F T (mkF m pc' ls' st)) : Run p e below F T (mkF m pc ls (.long v :: st)) := by
  obtain ⟨⟨hx, hby, hml, hZ, hown, hnm, hret, hlk⟩, hs0, eT, locs, S, N⟩ := X
  subst hp
  exact Run.of (fun t q => XT.lstoreN S.here hx rfl (hb hby hd) rfl hl q) r
theorem r_lstore (X : Here p l e R s m args below meth c Z own nm bs ml rt n0 T h k n) {i : Nat} {v : Int64} (hd : decode bs pc = .ok (.lstore i, 2)) (hl : storeLocals ls i (.long v) = some ls') (hp : pc + 2 = pc') (r : Run p e below F T (mkF m pc' ls' st)) : Run p e below F T (mkF m pc ls (.long v :: st)) := by
  obtain ⟨⟨hx, hby, hml, hZ, hown, hnm, hret, hlk⟩, hs0, eT, locs, S, N⟩ := X
  subst hp
  exact Run.of (fun t q => XT.lstore S.here hx rfl (hb hby hd) rfl hl q) r
theorem r_astoreN (X : Here p l e R s m args below meth c Z own nm bs ml rt n0 T h k n) {i : Fin 4} {v : Addr} (hd : decode bs pc = .ok (.astore_n i, 1)) (hl : storeLocals ls i.val (.ref v) = some ls') (hp : pc + 1 = pc') (r : Run p e below F T (mkF m pc' ls' st)) : Run p e below F T (mkF m pc ls (.ref v :: st)) := by
  obtain ⟨⟨hx, hby, hml, hZ, hown, hnm, hret, hlk⟩, hs0, eT, locs, S, N⟩ := X
  subst hp
  exact Run.of (fun t q => XS.astoreN S.here hx rfl (hb hby hd) rfl rfl hl q) r
theorem r_astore (X : Here p l e R s m args below meth c Z own nm bs ml rt n0 T h k n) {i : Nat} {v : Addr} (hd : decode bs pc = .ok (.astore i, 2)) (hl : storeLocals ls i (.ref v) = some ls') (hp : pc + 2 = pc') (r : Run p e below F T (mkF m pc' ls' st)) : Run p e below F T (mkF m pc ls (.ref v :: st)) := by
  obtain ⟨⟨hx, hby, hml, hZ, hown, hnm, hret, hlk⟩, hs0, eT, locs, S, N⟩ := X
  subst hp
  exact Run.of (fun t q => XS.astore S.here hx rfl (hb hby hd) rfl rfl hl q) r
theorem r_iconst (X : Here p l e R s m args below meth c Z own nm bs ml rt n0 T h k n) {i : Int} {v : Int32} (hd : decode bs pc = .ok (.iconst i, 1)) (hv : Int32.ofInt i = v) (hp : pc + 1 = pc') (r : Run p e below F T (mkF m pc' ls (.int v :: st))) : Run p e below F T (mkF m pc ls st) := by
  obtain ⟨⟨hx, hby, hml, hZ, hown, hnm, hret, hlk⟩, hs0, eT, locs, S, N⟩ := X
  subst hp
  exact Run.of (fun t q => XS.iconst S.here hx rfl (hb hby hd) (by rw [hv]; exact q)) r
theorem r_bipush (X : Here p l e R s m args below meth c Z own nm bs ml rt n0 T h k n) {i : Int} {v : Int32} (hd : decode bs pc = .ok (.bipush i, 2)) (hv : (Int8.ofInt i).toInt32 = v) (hp : pc + 2 = pc') (r : Run p e below F T (mkF m pc' ls (.int v :: st))) : Run p e below F T (mkF m pc ls st) := by
  obtain ⟨⟨hx, hby, hml, hZ, hown, hnm, hret, hlk⟩, hs0, eT, locs, S, N⟩ := X
  subst hp
  exact Run.of (fun t q => XS.bipush S.here hx rfl (hb hby hd) (by rw [hv]; exact q)) r
theorem r_sipush (X : Here p l e R s m args below meth c Z own nm bs ml rt n0 T h k n) {i : Int} {v : Int32} (hd : decode bs pc = .ok (.sipush i, 3)) (hv : (Int16.ofInt i).toInt32 = v) (hp : pc + 3 = pc') (r : Run p e below F T (mkF m pc' ls (.int v :: st))) : Run p e below F T (mkF m pc ls st) := by
  obtain ⟨⟨hx, hby, hml, hZ, hown, hnm, hret, hlk⟩, hs0, eT, locs, S, N⟩ := X
  subst hp
  exact Run.of (fun t q => XS.sipush S.here hx rfl (hb hby hd) (by rw [hv]; exact q)) r
theorem r_lconst (X : Here p l e R s m args below meth c Z own nm bs ml rt n0 T h k n) {i : Fin 2} {v : Int64} (hd : decode bs pc = .ok (.lconst i, 1)) (hv : Int64.ofNat i = v) (hp : pc + 1 = pc') (r : Run p e below F T (mkF m pc' ls (.long v :: st))) : Run p e below F T (mkF m pc ls st) := by
  obtain ⟨⟨hx, hby, hml, hZ, hown, hnm, hret, hlk⟩, hs0, eT, locs, S, N⟩ := X
  subst hp
  exact Run.of (fun t q => XT.lconst S.here hx rfl (hb hby hd) (by rw [hv]; exact q)) r
theorem r_ldcI (X : Here p l e R s m args below meth c Z own nm bs ml rt n0 T h k n) {i : Nat} {v : Int32} (hd : decode bs pc = .ok (.ldc i, 2)) (w : (Jvm.Cond.constant own i v).before a0 Z = true) (hp : pc + 2 = pc') (r : Run p e below F T (mkF m pc' ls (.int v :: st))) : Run p e below F T (mkF m pc ls st) := by
  obtain ⟨⟨hx, hby, hml, hZ, hown, hnm, hret, hlk⟩, hs0, eT, locs, S, N⟩ := X
  subst hp
  exact Run.of (fun t q => S.ldcI hx hown (mvT hZ w) rfl (hb hby hd) q) r
theorem r_ldc2J (X : Here p l e R s m args below meth c Z own nm bs ml rt n0 T h k n) {i : Nat} {v : Int64} (hd : decode bs pc = .ok (.ldc2_w i, 3)) (w : (Jvm.Cond.constantLong own i v).before a0 Z = true) (hp : pc + 3 = pc') (r : Run p e below F T (mkF m pc' ls (.long v :: st))) : Run p e below F T (mkF m pc ls st) := by
  obtain ⟨⟨hx, hby, hml, hZ, hown, hnm, hret, hlk⟩, hs0, eT, locs, S, N⟩ := X
  subst hp
  exact Run.of (fun t q => S.ldc2J hx hown (mvT hZ w) rfl (hb hby hd) q) r
theorem r_iadd (X : Here p l e R s m args below meth c Z own nm bs ml rt n0 T h k n) {x y z : Int32} (hd : decode bs pc = .ok (.iadd, 1)) (hv : x + y = z) (hp : pc + 1 = pc') (r : Run p e below F T (mkF m pc' ls (.int z :: st))) : Run p e below F T (mkF m pc ls (.int y :: .int x :: st)) := by
  obtain ⟨⟨hx, hby, hml, hZ, hown, hnm, hret, hlk⟩, hs0, eT, locs, S, N⟩ := X
  subst hp
  exact Run.of (fun t q => XS.iadd S.here hx rfl (hb hby hd) rfl (by rw [hv]; exact q)) r
theorem r_isub (X : Here p l e R s m args below meth c Z own nm bs ml rt n0 T h k n) {x y z : Int32} (hd : decode bs pc = .ok (.isub, 1)) (hv : x - y = z) (hp : pc + 1 = pc') (r : Run p e below F T (mkF m pc' ls (.int z :: st))) : Run p e below F T (mkF m pc ls (.int y :: .int x :: st)) := by
  obtain ⟨⟨hx, hby, hml, hZ, hown, hnm, hret, hlk⟩, hs0, eT, locs, S, N⟩ := X
  subst hp
  exact Run.of (fun t q => XS.isub S.here hx rfl (hb hby hd) rfl (by rw [hv]; exact q)) r
theorem r_imul (X : Here p l e R s m args below meth c Z own nm bs ml rt n0 T h k n) {x y z : Int32} (hd : decode bs pc = .ok (.imul, 1)) (hv : x * y = z) (hp : pc + 1 = pc') (r : Run p e below F T (mkF m pc' ls (.int z :: st))) : Run p e below F T (mkF m pc ls (.int y :: .int x :: st)) := by
  obtain ⟨⟨hx, hby, hml, hZ, hown, hnm, hret, hlk⟩, hs0, eT, locs, S, N⟩ := X
  subst hp
  exact Run.of (fun t q => XS.imul S.here hx rfl (hb hby hd) rfl (by rw [hv]; exact q)) r
theorem r_iand (X : Here p l e R s m args below meth c Z own nm bs ml rt n0 T h k n) {x y z : Int32} (hd : decode bs pc = .ok (.iand, 1)) (hv : x &&& y = z) (hp : pc + 1 = pc') (r : Run p e below F T (mkF m pc' ls (.int z :: st))) : Run p e below F T (mkF m pc ls (.int y :: .int x :: st)) := by
  obtain ⟨⟨hx, hby, hml, hZ, hown, hnm, hret, hlk⟩, hs0, eT, locs, S, N⟩ := X
  subst hp
  exact Run.of (fun t q => XS.iand S.here hx rfl (hb hby hd) rfl (by rw [hv]; exact q)) r
theorem r_ior (X : Here p l e R s m args below meth c Z own nm bs ml rt n0 T h k n) {x y z : Int32} (hd : decode bs pc = .ok (.ior, 1)) (hv : x ||| y = z) (hp : pc + 1 = pc') (r : Run p e below F T (mkF m pc' ls (.int z :: st))) : Run p e below F T (mkF m pc ls (.int y :: .int x :: st)) := by
  obtain ⟨⟨hx, hby, hml, hZ, hown, hnm, hret, hlk⟩, hs0, eT, locs, S, N⟩ := X
  subst hp
  exact Run.of (fun t q => XT.ior S.here hx rfl (hb hby hd) rfl (by rw [hv]; exact q)) r
theorem r_ixor (X : Here p l e R s m args below meth c Z own nm bs ml rt n0 T h k n) {x y z : Int32} (hd : decode bs pc = .ok (.ixor, 1)) (hv : x ^^^ y = z) (hp : pc + 1 = pc') (r : Run p e below F T (mkF m pc' ls (.int z :: st))) : Run p e below F T (mkF m pc ls (.int y :: .int x :: st)) := by
  obtain ⟨⟨hx, hby, hml, hZ, hown, hnm, hret, hlk⟩, hs0, eT, locs, S, N⟩ := X
  subst hp
  exact Run.of (fun t q => XT.ixor S.here hx rfl (hb hby hd) rfl (by rw [hv]; exact q)) r
theorem r_ishl (X : Here p l e R s m args below meth c Z own nm bs ml rt n0 T h k n) {x y z : Int32} (hd : decode bs pc = .ok (.ishl, 1)) (hv : x <<< (y &&& 31) = z) (hp : pc + 1 = pc') (r : Run p e below F T (mkF m pc' ls (.int z :: st))) : Run p e below F T (mkF m pc ls (.int y :: .int x :: st)) := by
  obtain ⟨⟨hx, hby, hml, hZ, hown, hnm, hret, hlk⟩, hs0, eT, locs, S, N⟩ := X
  subst hp
  exact Run.of (fun t q => XT.ishl S.here hx rfl (hb hby hd) rfl (by rw [hv]; exact q)) r
theorem r_ishr (X : Here p l e R s m args below meth c Z own nm bs ml rt n0 T h k n) {x y z : Int32} (hd : decode bs pc = .ok (.ishr, 1)) (hv : x >>> (y &&& 31) = z) (hp : pc + 1 = pc') (r : Run p e below F T (mkF m pc' ls (.int z :: st))) : Run p e below F T (mkF m pc ls (.int y :: .int x :: st)) := by
  obtain ⟨⟨hx, hby, hml, hZ, hown, hnm, hret, hlk⟩, hs0, eT, locs, S, N⟩ := X
  subst hp
  exact Run.of (fun t q => XT.ishr S.here hx rfl (hb hby hd) rfl (by rw [hv]; exact q)) r
theorem r_iushr (X : Here p l e R s m args below meth c Z own nm bs ml rt n0 T h k n) {x y z : Int32} (hd : decode bs pc = .ok (.iushr, 1)) (hv : XT.ushr x y = z) (hp : pc + 1 = pc') (r : Run p e below F T (mkF m pc' ls (.int z :: st))) : Run p e below F T (mkF m pc ls (.int y :: .int x :: st)) := by
  obtain ⟨⟨hx, hby, hml, hZ, hown, hnm, hret, hlk⟩, hs0, eT, locs, S, N⟩ := X
  subst hp
  exact Run.of (fun t q => XT.iushr S.here hx rfl (hb hby hd) rfl (by rw [hv]; exact q)) r
theorem r_irem (X : Here p l e R s m args below meth c Z own nm bs ml rt n0 T h k n) {x y z : Int32} (hd : decode bs pc = .ok (.irem, 1)) (hy : y ≠ 0) (hv : x % y = z) (hp : pc + 1 = pc') (r : Run p e below F T (mkF m pc' ls (.int z :: st))) : Run p e below F T (mkF m pc ls (.int y :: .int x :: st)) := by
  obtain ⟨⟨hx, hby, hml, hZ, hown, hnm, hret, hlk⟩, hs0, eT, locs, S, N⟩ := X
  subst hp
  exact Run.of (fun t q => iremM S hx rfl (hb hby hd) rfl hy (by rw [hv]; exact q)) r
theorem r_idiv (X : Here p l e R s m args below meth c Z own nm bs ml rt n0 T h k n) {x y z : Int32} (hd : decode bs pc = .ok (.idiv, 1)) (hy : y ≠ 0) (hv : x / y = z) (hp : pc + 1 = pc') (r : Run p e below F T (mkF m pc' ls (.int z :: st))) : Run p e below F T (mkF m pc ls (.int y :: .int x :: st)) := by
  obtain ⟨⟨hx, hby, hml, hZ, hown, hnm, hret, hlk⟩, hs0, eT, locs, S, N⟩ := X
  subst hp
  exact Run.of (fun t q => XS.idiv S.here hx rfl (hb hby hd) rfl hy (by rw [hv]; exact q)) r
theorem r_ladd (X : Here p l e R s m args below meth c Z own nm bs ml rt n0 T h k n) {x y z : Int64} (hd : decode bs pc = .ok (.ladd, 1)) (hv : x + y = z) (hp : pc + 1 = pc') (r : Run p e below F T (mkF m pc' ls (.long z :: st))) : Run p e below F T (mkF m pc ls (.long y :: .long x :: st)) := by
  obtain ⟨⟨hx, hby, hml, hZ, hown, hnm, hret, hlk⟩, hs0, eT, locs, S, N⟩ := X
  subst hp
  exact Run.of (fun t q => XT.ladd S.here hx rfl (hb hby hd) rfl (by rw [hv]; exact q)) r
theorem r_lsub (X : Here p l e R s m args below meth c Z own nm bs ml rt n0 T h k n) {x y z : Int64} (hd : decode bs pc = .ok (.lsub, 1)) (hv : x - y = z) (hp : pc + 1 = pc') (r : Run p e below F T (mkF m pc' ls (.long z :: st))) : Run p e below F T (mkF m pc ls (.long y :: .long x :: st)) := by
  obtain ⟨⟨hx, hby, hml, hZ, hown, hnm, hret, hlk⟩, hs0, eT, locs, S, N⟩ := X
  subst hp
  exact Run.of (fun t q => XT.lsub S.here hx rfl (hb hby hd) rfl (by rw [hv]; exact q)) r
theorem r_lmul (X : Here p l e R s m args below meth c Z own nm bs ml rt n0 T h k n) {x y z : Int64} (hd : decode bs pc = .ok (.lmul, 1)) (hv : x * y = z) (hp : pc + 1 = pc') (r : Run p e below F T (mkF m pc' ls (.long z :: st))) : Run p e below F T (mkF m pc ls (.long y :: .long x :: st)) := by
  obtain ⟨⟨hx, hby, hml, hZ, hown, hnm, hret, hlk⟩, hs0, eT, locs, S, N⟩ := X
  subst hp
  exact Run.of (fun t q => XT.lmul S.here hx rfl (hb hby hd) rfl (by rw [hv]; exact q)) r
theorem r_land (X : Here p l e R s m args below meth c Z own nm bs ml rt n0 T h k n) {x y z : Int64} (hd : decode bs pc = .ok (.land, 1)) (hv : x &&& y = z) (hp : pc + 1 = pc') (r : Run p e below F T (mkF m pc' ls (.long z :: st))) : Run p e below F T (mkF m pc ls (.long y :: .long x :: st)) := by
  obtain ⟨⟨hx, hby, hml, hZ, hown, hnm, hret, hlk⟩, hs0, eT, locs, S, N⟩ := X
  subst hp
  exact Run.of (fun t q => XT.land S.here hx rfl (hb hby hd) rfl (by rw [hv]; exact q)) r
theorem r_lor (X : Here p l e R s m args below meth c Z own nm bs ml rt n0 T h k n) {x y z : Int64} (hd : decode bs pc = .ok (.lor, 1)) (hv : x ||| y = z) (hp : pc + 1 = pc') (r : Run p e below F T (mkF m pc' ls (.long z :: st))) : Run p e below F T (mkF m pc ls (.long y :: .long x :: st)) := by
  obtain ⟨⟨hx, hby, hml, hZ, hown, hnm, hret, hlk⟩, hs0, eT, locs, S, N⟩ := X
  subst hp
  exact Run.of (fun t q => XT.lor S.here hx rfl (hb hby hd) rfl (by rw [hv]; exact q)) r
theorem r_lxor (X : Here p l e R s m args below meth c Z own nm bs ml rt n0 T h k n) {x y z : Int64} (hd : decode bs pc = .ok (.lxor, 1)) (hv : x ^^^ y = z) (hp : pc + 1 = pc') (r : Run p e below F T (mkF m pc' ls (.long z :: st))) : Run p e below F T (mkF m pc ls (.long y :: .long x :: st)) := by
  obtain ⟨⟨hx, hby, hml, hZ, hown, hnm, hret, hlk⟩, hs0, eT, locs, S, N⟩ := X
  subst hp
  exact Run.of (fun t q => XT.lxor S.here hx rfl (hb hby hd) rfl (by rw [hv]; exact q)) r
theorem r_ldiv (X : Here p l e R s m args below meth c Z own nm bs ml rt n0 T h k n) {x y z : Int64} (hd : decode bs pc = .ok (.ldiv, 1)) (hy : y ≠ 0) (hv : x / y = z) (hp : pc + 1 = pc') (r : Run p e below F T (mkF m pc' ls (.long z :: st))) : Run p e below F T (mkF m pc ls (.long y :: .long x :: st)) := by
  obtain ⟨⟨hx, hby, hml, hZ, hown, hnm, hret, hlk⟩, hs0, eT, locs, S, N⟩ := X
  subst hp
  exact Run.of (fun t q => XT.ldiv S.here hx rfl (hb hby hd) rfl hy (by rw [hv]; exact q)) r
theorem r_lrem (X : Here p l e R s m args below meth c Z own nm bs ml rt n0 T h k n) {x y z : Int64} (hd : decode bs pc = .ok (.lrem, 1)) (hy : y ≠ 0) (hv : x - (x / y) * y = z) (hp : pc + 1 = pc') (r : Run p e below F T (mkF m pc' ls (.long z :: st))) : Run p e below F T (mkF m pc ls (.long y :: .long x :: st)) := by
  obtain ⟨⟨hx, hby, hml, hZ, hown, hnm, hret, hlk⟩, hs0, eT, locs, S, N⟩ := X
  subst hp
  exact Run.of (fun t q => XT.lrem S.here hx rfl (hb hby hd) rfl hy (by rw [hv]; exact q)) r
theorem r_lshl (X : Here p l e R s m args below meth c Z own nm bs ml rt n0 T h k n) {x z : Int64} {y : Int32} (hd : decode bs pc = .ok (.lshl, 1)) (hv : x <<< (y.toInt64 &&& 63) = z) (hp : pc + 1 = pc') (r : Run p e below F T (mkF m pc' ls (.long z :: st))) : Run p e below F T (mkF m pc ls (.int y :: .long x :: st)) := by
  obtain ⟨⟨hx, hby, hml, hZ, hown, hnm, hret, hlk⟩, hs0, eT, locs, S, N⟩ := X
  subst hp
  exact Run.of (fun t q => XT.lshl S.here hx rfl (hb hby hd) rfl (by rw [hv]; exact q)) r
theorem r_lshr (X : Here p l e R s m args below meth c Z own nm bs ml rt n0 T h k n) {x z : Int64} {y : Int32} (hd : decode bs pc = .ok (.lshr, 1)) (hv : x >>> (y.toInt64 &&& 63) = z) (hp : pc + 1 = pc') (r : Run p e below F T (mkF m pc' ls (.long z :: st))) : Run p e below F T (mkF m pc ls (.int y :: .long x :: st)) := by
  obtain ⟨⟨hx, hby, hml, hZ, hown, hnm, hret, hlk⟩, hs0, eT, locs, S, N⟩ := X
  subst hp
  exact Run.of (fun t q => XT.lshr S.here hx rfl (hb hby hd) rfl (by rw [hv]; exact q)) r
theorem r_lushr (X : Here p l e R s m args below meth c Z own nm bs ml rt n0 T h k n) {x z : Int64} {y : Int32} (hd : decode bs pc = .ok (.lushr, 1)) (hv : XT.ushrL x y = z) (hp : pc + 1 = pc') (r : Run p e below F T (mkF m pc' ls (.long z :: st))) : Run p e below F T (mkF m pc ls (.int y :: .long x :: st)) := by
  obtain ⟨⟨hx, hby, hml, hZ, hown, hnm, hret, hlk⟩, hs0, eT, locs, S, N⟩ := X
  subst hp
  exact Run.of (fun t q => XT.lushr S.here hx rfl (hb hby hd) rfl (by rw [hv]; exact q)) r
theorem r_i2b (X : Here p l e R s m args below meth c Z own nm bs ml rt n0 T h k n) {x z : Int32} (hd : decode bs pc = .ok (.i2b, 1)) (hv : x.toInt8.toInt32 = z) (hp : pc + 1 = pc') (r : Run p e below F T (mkF m pc' ls (.int z :: st))) : Run p e below F T (mkF m pc ls (.int x :: st)) := by
  obtain ⟨⟨hx, hby, hml, hZ, hown, hnm, hret, hlk⟩, hs0, eT, locs, S, N⟩ := X
  subst hp
  exact Run.of (fun t q => XT.i2b S.here hx rfl (hb hby hd) rfl (by rw [hv]; exact q)) r
theorem r_i2c (X : Here p l e R s m args below meth c Z own nm bs ml rt n0 T h k n) {x z : Int32} (hd : decode bs pc = .ok (.i2c, 1)) (hv : x.toUInt32.toUInt16.toUInt32.toInt32 = z) (hp : pc + 1 = pc') (r : Run p e below F T (mkF m pc' ls (.int z :: st))) : Run p e below F T (mkF m pc ls (.int x :: st)) := by
  obtain ⟨⟨hx, hby, hml, hZ, hown, hnm, hret, hlk⟩, hs0, eT, locs, S, N⟩ := X
  subst hp
  exact Run.of (fun t q => XT.i2c S.here hx rfl (hb hby hd) rfl (by rw [hv]; exact q)) r
theorem r_i2s (X : Here p l e R s m args below meth c Z own nm bs ml rt n0 T h k n) {x z : Int32} (hd : decode bs pc = .ok (.i2s, 1)) (hv : x.toInt16.toInt32 = z) (hp : pc + 1 = pc') (r : Run p e below F T (mkF m pc' ls (.int z :: st))) : Run p e below F T (mkF m pc ls (.int x :: st)) := by
  obtain ⟨⟨hx, hby, hml, hZ, hown, hnm, hret, hlk⟩, hs0, eT, locs, S, N⟩ := X
  subst hp
  exact Run.of (fun t q => XT.i2s S.here hx rfl (hb hby hd) rfl (by rw [hv]; exact q)) r
theorem r_i2l (X : Here p l e R s m args below meth c Z own nm bs ml rt n0 T h k n) {x : Int32} {z : Int64} (hd : decode bs pc = .ok (.i2l, 1)) (hv : x.toInt64 = z) (hp : pc + 1 = pc') (r : Run p e below F T (mkF m pc' ls (.long z :: st))) : Run p e below F T (mkF m pc ls (.int x :: st)) := by
  obtain ⟨⟨hx, hby, hml, hZ, hown, hnm, hret, hlk⟩, hs0, eT, locs, S, N⟩ := X
  subst hp
  exact Run.of (fun t q => XT.i2l S.here hx rfl (hb hby hd) rfl (by rw [hv]; exact q)) r
theorem r_l2i (X : Here p l e R s m args below meth c Z own nm bs ml rt n0 T h k n) {x : Int64} {z : Int32} (hd : decode bs pc = .ok (.l2i, 1)) (hv : x.toInt32 = z) (hp : pc + 1 = pc') (r : Run p e below F T (mkF m pc' ls (.int z :: st))) : Run p e below F T (mkF m pc ls (.long x :: st)) := by
  obtain ⟨⟨hx, hby, hml, hZ, hown, hnm, hret, hlk⟩, hs0, eT, locs, S, N⟩ := X
  subst hp
  exact Run.of (fun t q => XT.l2i S.here hx rfl (hb hby hd) rfl (by rw [hv]; exact q)) r
theorem r_lcmp (X : Here p l e R s m args below meth c Z own nm bs ml rt n0 T h k n) {x y : Int64} {z : Int32} (hd : decode bs pc = .ok (.lcmp, 1)) (hv : XT.cmpL x y = z) (hp : pc + 1 = pc') (r : Run p e below F T (mkF m pc' ls (.int z :: st))) : Run p e below F T (mkF m pc ls (.long y :: .long x :: st)) := by
  obtain ⟨⟨hx, hby, hml, hZ, hown, hnm, hret, hlk⟩, hs0, eT, locs, S, N⟩ := X
  subst hp
  exact Run.of (fun t q => XT.lcmp S.here hx rfl (hb hby hd) rfl (by rw [hv]; exact q)) r
theorem r_dup (X : Here p l e R s m args below meth c Z own nm bs ml rt n0 T h k n) {x : Value} (hd : decode bs pc = .ok (.dup, 1)) (hc : x.category = 1) (hp : pc + 1 = pc') (r : Run p e below F T (mkF m pc' ls (x :: x :: st))) : Run p e below F T (mkF m pc ls (x :: st)) := by
  obtain ⟨⟨hx, hby, hml, hZ, hown, hnm, hret, hlk⟩, hs0, eT, locs, S, N⟩ := X
  subst hp
  exact Run.of (fun t q => XS.dup S.here hx rfl (hb hby hd) rfl hc q) r
theorem r_dupX1 (X : Here p l e R s m args below meth c Z own nm bs ml rt n0 T h k n) {x y : Value} (hd : decode bs pc = .ok (.dup_x1, 1)) (hc : x.category = 1) (hc' : y.category = 1) (hp : pc + 1 = pc') (r : Run p e below F T (mkF m pc' ls (x :: y :: x :: st))) : Run p e below F T (mkF m pc ls (x :: y :: st)) := by
  obtain ⟨⟨hx, hby, hml, hZ, hown, hnm, hret, hlk⟩, hs0, eT, locs, S, N⟩ := X
  subst hp
  exact Run.of (fun t q => XT.dupX1 S.here hx rfl (hb hby hd) rfl hc hc' q) r
theorem r_pop (X : Here p l e R s m args below meth c Z own nm bs ml rt n0 T h k n) {x : Value} (hd : decode bs pc = .ok (.pop, 1)) (hc : x.category = 1) (hp : pc + 1 = pc') (r : Run p e below F T (mkF m pc' ls st)) : Run p e below F T (mkF m pc ls (x :: st)) := by
  obtain ⟨⟨hx, hby, hml, hZ, hown, hnm, hret, hlk⟩, hs0, eT, locs, S, N⟩ := X
  subst hp
  exact Run.of (fun t q => XT.pop S.here hx rfl (hb hby hd) rfl hc q) r
theorem r_iinc (X : Here p l e R s m args below meth c Z own nm bs ml rt n0 T h k n) {i : Nat} {d : Int} {x z : Int32} (hd : decode bs pc = .ok (.iinc i d, 3)) (hl : ls[i]? = some (.val (.int x))) (hv : x + Int32.ofInt d = z) (hl' : storeLocals ls i (.int z) = some ls') (hp : pc + 3 = pc') (r : Run p e below F T (mkF m pc' ls' st)) : Run p e below F T (mkF m pc ls st) := by
  obtain ⟨⟨hx, hby, hml, hZ, hown, hnm, hret, hlk⟩, hs0, eT, locs, S, N⟩ := X
  subst hp
  exact Run.of (fun t q => XS.iinc S.here hx rfl (hb hby hd) hl (by rw [hv]; exact hl') q) r
theorem r_goto (X : Here p l e R s m args below meth c Z own nm bs ml rt n0 T h k n) {o : Int} (hd : decode bs pc = .ok (.goto o, 3)) (ho : 0 ≤ (pc : Int) + o) (hp : ((pc : Int) + o).toNat = pc') (r : Run p e below F T (mkF m pc' ls st)) : Run p e below F T (mkF m pc ls st) := by
  obtain ⟨⟨hx, hby, hml, hZ, hown, hnm, hret, hlk⟩, hs0, eT, locs, S, N⟩ := X
  exact Run.of (fun t q => XS.goto S.here hx rfl rfl (hb hby hd) ho hp q) r
theorem r_icmp (X : Here p l e R s m args below meth c Z own nm bs ml rt n0 T h k n) {cd : ClassFile.Cond} {o : Int} (hd : decode bs pc = .ok (.if_icmp cd o, 3)) (ho : 0 ≤ (pc : Int) + o) (hp : ((pc : Int) + o).toNat = pc') (hp2 : pc + 3 = pc2) {x y : Int32} {a b : Int} (ha : x.toInt = a) (hb' : y.toInt = b) (yes : cnd cd a b → Run p e below F T (mkF m pc' ls st)) (no : ¬ cnd cd a b → Run p e below F T (mkF m pc2 ls st)) : Run p e below F T (mkF m pc ls (.int y :: .int x :: st)) := by
  obtain ⟨⟨hx, hby, hml, hZ, hown, hnm, hret, hlk⟩, hs0, eT, locs, S, N⟩ := X
  subst ha hb' hp2
  by_cases w : cnd cd x.toInt (y : Int32).toInt
  · exact Run.of (fun t q => XS.icmpYes S.here hx rfl rfl (hb hby hd) rfl (((cnd_iff cd x y).mpr w)) ho hp q) (yes w)
  · exact Run.of (fun t q => XS.icmpNo S.here hx rfl (hb hby hd) rfl ((Bool.eq_false_iff.mpr fun z => w ((cnd_iff cd x y).mp z))) q) (no w)
theorem r_icmpY (X : Here p l e R s m args below meth c Z own nm bs ml rt n0 T h k n) {cd : ClassFile.Cond} {o : Int} (hd : decode bs pc = .ok (.if_icmp cd o, 3)) (ho : 0 ≤ (pc : Int) + o) (hp : ((pc : Int) + o).toNat = pc') {x y : Int32} {a b : Int} (ha : x.toInt = a) (hb' : y.toInt = b) (w : cnd cd a b) (r : Run p e below F T (mkF m pc' ls st)) : Run p e below F T (mkF m pc ls (.int y :: .int x :: st)) :=
  r_icmp X hd ho hp rfl ha hb' (fun _ => r) (fun z => absurd w z)
theorem r_icmpN (X : Here p l e R s m args below meth c Z own nm bs ml rt n0 T h k n) {cd : ClassFile.Cond} {o : Int} (hd : decode bs pc = .ok (.if_icmp cd o, 3)) (ho : 0 ≤ (pc : Int) + o) (hp2 : pc + 3 = pc2) {x y : Int32} {a b : Int} (ha : x.toInt = a) (hb' : y.toInt = b) (w : ¬ cnd cd a b) (r : Run p e below F T (mkF m pc2 ls st)) : Run p e below F T (mkF m pc ls (.int y :: .int x :: st)) :=
  r_icmp X hd ho rfl hp2 ha hb' (fun z => absurd z w) (fun _ => r)
theorem r_if (X : Here p l e R s m args below meth c Z own nm bs ml rt n0 T h k n) {cd : ClassFile.Cond} {o : Int} (hd : decode bs pc = .ok (.ifCond cd o, 3)) (ho : 0 ≤ (pc : Int) + o) (hp : ((pc : Int) + o).toNat = pc') (hp2 : pc + 3 = pc2) {x : Int32} {a b : Int} (ha : x.toInt = a) (hb' : (0 : Int32).toInt = b) (yes : cnd cd a b → Run p e below F T (mkF m pc' ls st)) (no : ¬ cnd cd a b → Run p e below F T (mkF m pc2 ls st)) : Run p e below F T (mkF m pc ls (.int x :: st)) := by
  obtain ⟨⟨hx, hby, hml, hZ, hown, hnm, hret, hlk⟩, hs0, eT, locs, S, N⟩ := X
  subst ha hb' hp2
  by_cases w : cnd cd x.toInt (0 : Int32).toInt
  · exact Run.of (fun t q => XS.ifYes S.here hx rfl rfl (hb hby hd) rfl ((if0 _ _).trans ((cnd_iff cd x 0).mpr w)) ho hp q) (yes w)
  · exact Run.of (fun t q => XS.ifNo S.here hx rfl (hb hby hd) rfl ((if0 _ _).trans (Bool.eq_false_iff.mpr fun z => w ((cnd_iff cd x 0).mp z))) q) (no w)
theorem r_ifY (X : Here p l e R s m args below meth c Z own nm bs ml rt n0 T h k n) {cd : ClassFile.Cond} {o : Int} (hd : decode bs pc = .ok (.ifCond cd o, 3)) (ho : 0 ≤ (pc : Int) + o) (hp : ((pc : Int) + o).toNat = pc') {x : Int32} {a b : Int} (ha : x.toInt = a) (hb' : (0 : Int32).toInt = b) (w : cnd cd a b) (r : Run p e below F T (mkF m pc' ls st)) : Run p e below F T (mkF m pc ls (.int x :: st)) :=
  r_if X hd ho hp rfl ha hb' (fun _ => r) (fun z => absurd w z)
theorem r_ifN (X : Here p l e R s m args below meth c Z own nm bs ml rt n0 T h k n) {cd : ClassFile.Cond} {o : Int} (hd : decode bs pc = .ok (.ifCond cd o, 3)) (ho : 0 ≤ (pc : Int) + o) (hp2 : pc + 3 = pc2) {x : Int32} {a b : Int} (ha : x.toInt = a) (hb' : (0 : Int32).toInt = b) (w : ¬ cnd cd a b) (r : Run p e below F T (mkF m pc2 ls st)) : Run p e below F T (mkF m pc ls (.int x :: st)) :=
  r_if X hd ho rfl hp2 ha hb' (fun z => absurd z w) (fun _ => r)
theorem r_acmpN (X : Here p l e R s m args below meth c Z own nm bs ml rt n0 T h k n) {cd : ACond} {o : Int} {x y : Addr} (hd : decode bs pc = .ok (.if_acmp cd o, 3)) (hc : XT.acmp cd (.ref x) (.ref y) = false) (hp : pc + 3 = pc') (r : Run p e below F T (mkF m pc' ls st)) : Run p e below F T (mkF m pc ls (.ref y :: .ref x :: st)) := by
  obtain ⟨⟨hx, hby, hml, hZ, hown, hnm, hret, hlk⟩, hs0, eT, locs, S, N⟩ := X
  subst hp
  exact Run.of (fun t q => XT.acmpNo S.here hx rfl (hb hby hd) rfl rfl rfl hc q) r
theorem r_retN {ft : FieldType} (X : Here p l e R s m args below meth c Z own nm bs ml (some ft) n0 T h k n) (ht : ft = .boolean ∨ ft = .byte ∨ ft = .char ∨ ft = .short) (hd : decode bs pc = .ok (.ireturn, 1)) {z w : Int32} (hz : nar ft z = w) (hQ : Q (some (.int w)) h) (hk : k ≤ kc) (hn : n ≤ ks) : Run p e below (Fnl s n0 kc ks Q) T (mkF m pc ls (.int z :: st)) := by
  obtain ⟨⟨hx, hby, hml, hZ, hown, hnm, hret, hlk⟩, hs0, eT, locs, S, N⟩ := X
  subst hz
  obtain ⟨fs, hr, hrun, hended, hW, hsame⟩ := S.leave (v := some (.int (nar ft z))) (fun w => by rw [hret] at w; cases w)
  refine ⟨_, _, ?_, hrun, hended, _, _, rfl, ⟨?_, ?_, N⟩, ⟨_, rfl⟩, hW, hsame.mono hk hn⟩
  · exact retN S hx hret ht (hb hby hd) hr
  · show Q _ T.heap
    rw [eT]; exact hQ
  · show n0 ≤ T.heap.size
    rw [eT]; exact hs0
theorem r_retI (X : Here p l e R s m args below meth c Z own nm bs ml (some .int) n0 T h k n) (hd : decode bs pc = .ok (.ireturn, 1)) {z : Int32} (hQ : Q (some (.int z)) h) (hk : k ≤ kc) (hn : n ≤ ks) : Run p e below (Fnl s n0 kc ks Q) T (mkF m pc ls (.int z :: st)) := by
  obtain ⟨⟨hx, hby, hml, hZ, hown, hnm, hret, hlk⟩, hs0, eT, locs, S, N⟩ := X
  obtain ⟨fs, hr, hrun, hended, hW, hsame⟩ := S.leave (v := some (.int z)) (fun w => by rw [hret] at w; cases w)
  refine ⟨_, _, ?_, hrun, hended, _, _, rfl, ⟨?_, ?_, N⟩, ⟨_, rfl⟩, hW, hsame.mono hk hn⟩
  · exact retOut S hx hret rfl (Or.inl ⟨rfl, Or.inl rfl, _, rfl⟩) (hb hby hd) hr
  · show Q _ T.heap
    rw [eT]; exact hQ
  · show n0 ≤ T.heap.size
    rw [eT]; exact hs0
theorem r_retL (X : Here p l e R s m args below meth c Z own nm bs ml (some .long) n0 T h k n) (hd : decode bs pc = .ok (.lreturn, 1)) {z : Int64} (hQ : Q (some (.long z)) h) (hk : k ≤ kc) (hn : n ≤ ks) : Run p e below (Fnl s n0 kc ks Q) T (mkF m pc ls (.long z :: st)) := by
  obtain ⟨⟨hx, hby, hml, hZ, hown, hnm, hret, hlk⟩, hs0, eT, locs, S, N⟩ := X
  obtain ⟨fs, hr, hrun, hended, hW, hsame⟩ := S.leave (v := some (.long z)) (fun w => by rw [hret] at w; cases w)
  refine ⟨_, _, ?_, hrun, hended, _, _, rfl, ⟨?_, ?_, N⟩, ⟨_, rfl⟩, hW, hsame.mono hk hn⟩
  · exact retOut S hx hret rfl (Or.inr (Or.inl ⟨rfl, rfl, _, rfl⟩)) (hb hby hd) hr
  · show Q _ T.heap
    rw [eT]; exact hQ
  · show n0 ≤ T.heap.size
    rw [eT]; exact hs0
theorem r_retA {ft : FieldType} (X : Here p l e R s m args below meth c Z own nm bs ml (some ft) n0 T h k n) (ht : ft.isReference = true) (hd : decode bs pc = .ok (.areturn, 1)) {a : Addr} (hQ : Q (some (.ref a)) h) (hk : k ≤ kc) (hn : n ≤ ks) : Run p e below (Fnl s n0 kc ks Q) T (mkF m pc ls (.ref a :: st)) := by
  obtain ⟨⟨hx, hby, hml, hZ, hown, hnm, hret, hlk⟩, hs0, eT, locs, S, N⟩ := X
  obtain ⟨fs, hr, hrun, hended, hW, hsame⟩ := S.leave (v := some (.ref a)) (fun w => by rw [hret] at w; cases w)
  refine ⟨_, _, ?_, hrun, hended, _, _, rfl, ⟨?_, ?_, N⟩, ⟨_, rfl⟩, hW, hsame.mono hk hn⟩
  · exact retOut S hx hret (by cases ft <;> first | rfl | (exfalso; revert ht; decide)) (Or.inr (Or.inr (Or.inr (Or.inr ⟨rfl, ht, rfl⟩)))) (hb hby hd) hr
  · show Q _ T.heap
    rw [eT]; exact hQ
  · show n0 ≤ T.heap.size
    rw [eT]; exact hs0
theorem r_ret (X : Here p l e R s m args below meth c Z own nm bs ml none n0 T h k n) (hd : decode bs pc = .ok (.return_, 1)) (hQ : Q none h) (hk : k ≤ kc) (hn : n ≤ ks) : Run p e below (Fnl s n0 kc ks Q) T (mkF m pc ls []) := by
  obtain ⟨⟨hx, hby, hml, hZ, hown, hnm, hret, hlk⟩, hs0, eT, locs, S, N⟩ := X
  obtain ⟨fs, hr, hrun, hended, hW, hsame⟩ := S.leave (v := none) (fun _ => rfl)
  refine ⟨_, _, ?_, hrun, hended, _, _, rfl, ⟨?_, ?_, N⟩, ⟨_, rfl⟩, hW, hsame.mono hk hn⟩
  · exact S.returnOut hx hret (hb hby hd) hr
  · show Q _ T.heap
    rw [eT]; exact hQ
  · show n0 ≤ T.heap.size
    rw [eT]; exact hs0
/-- the array at a has N components of kind ty; the j-th holds the int f j -/
def Arf (Z : State) (h : Heap) (a : Addr) (ty : FieldType) (N : Nat) (f : Nat → Int32) : Prop := ∃ cl : Cell, Arr Z h a cl ty ∧ cl.slots.size = N ∧ ∀ j, j < N → cl.slots[j]? = some (.int (f j))
def upd (f : Nat → Int32) (i : Nat) (v : Int32) : Nat → Int32 := fun j => if j = i then v else f j
theorem upd_same (f : Nat → Int32) (i : Nat) (v : Int32) : upd f i v i = v := if_pos rfl
theorem upd_ne (f : Nat → Int32) {i j : Nat} (v : Int32) (q : j ≠ i) : upd f i v j = f j := if_neg q
theorem Arf.lt {a : Addr} {ty : FieldType} {N : Nat} {f : Nat → Int32} (A : Arf Z h a ty N f) : a < h.size := by obtain ⟨_, A, -⟩ := A; exact A.lt
theorem Arf.ext {a : Addr} {ty : FieldType} {N : Nat} {f : Nat → Int32} {h' : Heap} (A : Arf Z h a ty N f) (E : Ext h h') : Arf Z h' a ty N f := by obtain ⟨cl, A, r⟩ := A; exact ⟨cl, A.ext E, r⟩
theorem Arf.other {a b : Addr} {ty : FieldType} {N sl : Nat} {f : Nat → Int32} {h' : Heap} {v : Value} (A : Arf Z h b ty N f) (W : Wr h h' a sl v) (q : b ≠ a) : Arf Z h' b ty N f := by obtain ⟨cl, A, r⟩ := A; exact ⟨cl, A.other W q, r⟩
theorem Arf.keep {a : Addr} {ty : FieldType} {N : Nat} {f : Nat → Int32} {h' : Heap} {ws : List Addr} (A : Arf Z h a ty N f) (K : Keep h h' ws) (q : a ∉ ws) : Arf Z h' a ty N f := by obtain ⟨cl, A, r⟩ := A; exact ⟨cl, ⟨K.2.1 a cl A.1 q, A.2⟩, r⟩
theorem Arf.cast {a : Addr} {ty : FieldType} {N : Nat} {f g : Nat → Int32} (A : Arf Z h a ty N f) (q : ∀ j, j < N → f j = g j) : Arf Z h a ty N g := by obtain ⟨cl, A, S, H⟩ := A; exact ⟨cl, A, S, fun j hj => by rw [H j hj, q j hj]⟩
theorem Arf.set {a : Addr} {ty : FieldType} {N i : Nat} {f : Nat → Int32} {h' : Heap} {v : Int32} (A : Arf Z h a ty N f) (W : Wr h h' a i (.int v)) : Arf Z h' a ty N (upd f i v) := by
  obtain ⟨cl, A, S, H⟩ := A
  refine ⟨_, A.same W, by rw [sz_set]; exact S, fun j hj => ?_⟩
  by_cases q : j = i
  · subst q; rw [upd_same]; simp [Cell.setSlot, S, hj]
  · rw [upd_ne f v q]; simp only [Cell.setSlot]; rw [Array.getElem?_setIfInBounds_ne (Ne.symm q)]; exact H j hj
theorem ix_clamp {j : Int32} {i : Nat} (hj : j.toInt = i) : j.toNatClampNeg = i := by simp [Int32.toNatClampNeg, hj]
theorem ix_in {j : Int32} {i N : Nat} (hj : j.toInt = i) (hi : i < N) {cl : Cell} (S : cl.slots.size = N) : ¬ (j < 0 ∨ cl.slots.size ≤ j.toNatClampNeg) := by
  rw [ix_clamp hj, S, Int32.lt_iff_toInt_lt, hj]
  have e0 : (0 : Int32).toInt = 0 := rfl
  omega
theorem r_baload (X : Here p l e R s m args below meth c Z own nm bs ml rt n0 T h k n) {a : Addr} {N i : Nat} {f : Nat → Int32} {j v : Int32} (hd : decode bs pc = .ok (.baload, 1)) (A : Arf Z h a .byte N f) (hj : j.toInt = i) (hi : i < N) (hv : f i = v) (hp : pc + 1 = pc') (r : Run p e below F T (mkF m pc' ls (.int v :: st))) : Run p e below F T (mkF m pc ls (.int j :: .ref a :: st)) := by
  obtain ⟨⟨hx, hby, hml, hZ, hown, hnm, hret, hlk⟩, hs0, eT, locs, S, N⟩ := X
  subst hp hv
  obtain ⟨cl, A, SZ, H⟩ := A
  exact Run.of (fun t q => S.baloadBytes hx (j := j) (by rw [eT]; exact A.1) (State.isArrayOf_alike hZ.alike A.2.1) A.2.2 (ix_in hj hi SZ) (by rw [ix_clamp hj]; exact H i hi) (g := mkF m pc ls (.int j :: .ref a :: st)) rfl rfl (hb hby hd) t q) r
theorem r_caload (X : Here p l e R s m args below meth c Z own nm bs ml rt n0 T h k n) {a : Addr} {N i : Nat} {f : Nat → Int32} {j v : Int32} (hd : decode bs pc = .ok (.caload, 1)) (A : Arf Z h a .char N f) (hj : j.toInt = i) (hi : i < N) (hv : f i = v) (hp : pc + 1 = pc') (r : Run p e below F T (mkF m pc' ls (.int v :: st))) : Run p e below F T (mkF m pc ls (.int j :: .ref a :: st)) := by
  obtain ⟨⟨hx, hby, hml, hZ, hown, hnm, hret, hlk⟩, hs0, eT, locs, S, N⟩ := X
  subst hp hv
  obtain ⟨cl, A, SZ, H⟩ := A
  exact Run.of (fun t q => S.caload hx (j := j) (by rw [eT]; exact A.1) (State.isArrayOf_alike hZ.alike A.2.1) A.2.2 (ix_in hj hi SZ) (by rw [ix_clamp hj]; exact H i hi) (g := mkF m pc ls (.int j :: .ref a :: st)) rfl rfl (hb hby hd) t q) r
theorem r_iaload (X : Here p l e R s m args below meth c Z own nm bs ml rt n0 T h k n) {a : Addr} {N i : Nat} {f : Nat → Int32} {j v : Int32} (hd : decode bs pc = .ok (.iaload, 1)) (A : Arf Z h a .int N f) (hj : j.toInt = i) (hi : i < N) (hv : f i = v) (hp : pc + 1 = pc') (r : Run p e below F T (mkF m pc' ls (.int v :: st))) : Run p e below F T (mkF m pc ls (.int j :: .ref a :: st)) := by
  obtain ⟨⟨hx, hby, hml, hZ, hown, hnm, hret, hlk⟩, hs0, eT, locs, S, N⟩ := X
  subst hp hv
  obtain ⟨cl, A, SZ, H⟩ := A
  exact Run.of (fun t q => S.iaload hx (j := j) (by rw [eT]; exact A.1) (State.isArrayOf_alike hZ.alike A.2.1) A.2.2 (ix_in hj hi SZ) (by rw [ix_clamp hj]; exact H i hi) (g := mkF m pc ls (.int j :: .ref a :: st)) rfl rfl (hb hby hd) t q) r
theorem r_arraylength (X : Here p l e R s m args below meth c Z own nm bs ml rt n0 T h k n) {a : Addr} {ty : FieldType} {N : Nat} {f : Nat → Int32} {v : Int32} (hd : decode bs pc = .ok (.arraylength, 1)) (A : Arf Z h a ty N f) (hv : N.toInt32 = v) (hp : pc + 1 = pc') (r : Run p e below F T (mkF m pc' ls (.int v :: st))) : Run p e below F T (mkF m pc ls (.ref a :: st)) := by
  obtain ⟨⟨hx, hby, hml, hZ, hown, hnm, hret, hlk⟩, hs0, eT, locs, S, N⟩ := X
  subst hp hv
  obtain ⟨cl, A, SZ, H⟩ := A
  subst SZ
  exact Run.of (fun t q => S.arraylength hx (cell := cl) (by rw [eT]; exact A.1) (State.isArrayOf_alike hZ.alike A.2.1) (g := mkF m pc ls (.ref a :: st)) rfl rfl (hb hby hd) t q) r
theorem r_bastore (X : Here p l e R s m args below meth c Z own nm bs ml rt n0 T h k n) {a : Addr} {N i : Nat} {f : Nat → Int32} {j x v : Int32} (hd : decode bs pc = .ok (.bastore, 1)) (A : Arf Z h a .byte N f) (hj : j.toInt = i) (hi : i < N) (ge : n0 ≤ a) (hv : nar .byte x = v) (hp : pc + 1 = pc') (r : ∀ T' h', Here p l e R s m args below meth c Z own nm bs ml rt n0 T' h' k n → Wr h h' a i (.int v) → Arf Z h' a .byte N (upd f i v) → Run p e below F T' (mkF m pc' ls st)) : Run p e below F T (mkF m pc ls (.int x :: .int j :: .ref a :: st)) := by
  obtain ⟨⟨hx, hby, hml, hZ, hown, hnm, hret, hlk⟩, hs0, eT, locs, S, N_⟩ := X
  subst hp hv
  obtain ⟨cl, A, SZ, H⟩ := A
  obtain ⟨T', h', X', e', W, st'⟩ := stB S hx hZ eT A (j := j) (x := x) (ix_in hj hi SZ) (g := mkF m pc ls (.int x :: .int j :: .ref a :: st)) rfl rfl (hb hby hd)
  rw [ix_clamp hj] at W
  refine Run.of (fun t q => st' t q) (r T' h' ⟨⟨hx, hby, hml, hZ, hown, hnm, hret, hlk⟩, ?_, e', _, X', Fr.snoc X' N_ ge⟩ W (Arf.set ⟨cl, A, SZ, H⟩ W))
  rw [W.size]; exact hs0
theorem r_castore (X : Here p l e R s m args below meth c Z own nm bs ml rt n0 T h k n) {a : Addr} {N i : Nat} {f : Nat → Int32} {j x v : Int32} (hd : decode bs pc = .ok (.castore, 1)) (A : Arf Z h a .char N f) (hj : j.toInt = i) (hi : i < N) (ge : n0 ≤ a) (hv : nar .char x = v) (hp : pc + 1 = pc') (r : ∀ T' h', Here p l e R s m args below meth c Z own nm bs ml rt n0 T' h' k n → Wr h h' a i (.int v) → Arf Z h' a .char N (upd f i v) → Run p e below F T' (mkF m pc' ls st)) : Run p e below F T (mkF m pc ls (.int x :: .int j :: .ref a :: st)) := by
  obtain ⟨⟨hx, hby, hml, hZ, hown, hnm, hret, hlk⟩, hs0, eT, locs, S, N_⟩ := X
  subst hp hv
  obtain ⟨cl, A, SZ, H⟩ := A
  obtain ⟨T', h', X', e', W, st'⟩ := stC S hx hZ eT A (j := j) (x := x) (ix_in hj hi SZ) (g := mkF m pc ls (.int x :: .int j :: .ref a :: st)) rfl rfl (hb hby hd)
  rw [ix_clamp hj] at W
  refine Run.of (fun t q => st' t q) (r T' h' ⟨⟨hx, hby, hml, hZ, hown, hnm, hret, hlk⟩, ?_, e', _, X', Fr.snoc X' N_ ge⟩ W (Arf.set ⟨cl, A, SZ, H⟩ W))
  rw [W.size]; exact hs0
theorem r_iastore (X : Here p l e R s m args below meth c Z own nm bs ml rt n0 T h k n) {a : Addr} {N i : Nat} {f : Nat → Int32} {j x v : Int32} (hd : decode bs pc = .ok (.iastore, 1)) (A : Arf Z h a .int N f) (hj : j.toInt = i) (hi : i < N) (ge : n0 ≤ a) (hv : x = v) (hp : pc + 1 = pc') (r : ∀ T' h', Here p l e R s m args below meth c Z own nm bs ml rt n0 T' h' k n → Wr h h' a i (.int v) → Arf Z h' a .int N (upd f i v) → Run p e below F T' (mkF m pc' ls st)) : Run p e below F T (mkF m pc ls (.int x :: .int j :: .ref a :: st)) := by
  obtain ⟨⟨hx, hby, hml, hZ, hown, hnm, hret, hlk⟩, hs0, eT, locs, S, N_⟩ := X
  subst hp hv
  obtain ⟨cl, A, SZ, H⟩ := A
  obtain ⟨T', h', X', e', W, st'⟩ := stI S hx hZ eT A (j := j) (x := x) (ix_in hj hi SZ) (g := mkF m pc ls (.int x :: .int j :: .ref a :: st)) rfl rfl (hb hby hd)
  rw [ix_clamp hj] at W
  refine Run.of (fun t q => st' t q) (r T' h' ⟨⟨hx, hby, hml, hZ, hown, hnm, hret, hlk⟩, ?_, e', _, X', Fr.snoc X' N_ ge⟩ W (Arf.set ⟨cl, A, SZ, H⟩ W))
  rw [W.size]; exact hs0
theorem r_newarray (X : Here p l e R s m args below meth c Z own nm bs ml rt n0 T h k n) {aty : ArrayType} {z : Int32} {N : Nat} (hd : decode bs pc = .ok (.newarray aty, 2)) (w : (Jvm.Cond.arrayClass (newarray.typeOf aty)).before a0 Z = true) (hz : z.toInt = N) (hdf : defaultValue (newarray.typeOf aty) = .int 0) (hb8 : N * 8 ≤ 536870912) (hc : k + 1 ≤ R.cells) (hl : n + N ≤ R.slots) (hp : pc + 2 = pc') (r : ∀ T' h' b, Here p l e R s m args below meth c Z own nm bs ml rt n0 T' h' (k + 1) (n + N) → b = h.size → n0 ≤ b → Ext h h' → Arf Z h' b (newarray.typeOf aty) N (fun _ => 0) → Run p e below F T' (mkF m pc' ls (.ref b :: st))) : Run p e below F T (mkF m pc ls (.int z :: st)) := by
  obtain ⟨⟨hx, hby, hml, hZ, hown, hnm, hret, hlk⟩, hs0, eT, locs, S, N_⟩ := X
  subst hp
  have hneg : ¬ z < 0 := by
    rw [Int32.lt_iff_toInt_lt, hz]
    have e0 : (0 : Int32).toInt = 0 := rfl
    omega
  obtain ⟨T', h', cA, X', e', E, A, st'⟩ := newP S hx hZ w eT (g := mkF m pc ls (.int z :: st)) rfl (hb hby hd) rfl hneg (cap := N) (Nat.le_of_eq (ix_clamp hz)) hb8 hc hl
  refine Run.of (fun t q => st' t q) (r T' h' h.size ⟨⟨hx, hby, hml, hZ, hown, hnm, hret, hlk⟩, Nat.le_trans hs0 E.1, e', _, X', N_⟩ rfl hs0 E ⟨_, A, (sz_new _ _ _).trans (ix_clamp hz), fun j hj => ?_⟩)
  simp [newA, ix_clamp hz, hj, hdf]
theorem r_new (X : Here p l e R s m args below meth c Z own nm bs ml rt n0 T h k n) {C : String} {i sz : Nat} (hd : decode bs pc = .ok (.new i, 3)) (w : (Jvm.Cond.classLink own i C).before a0 Z = true) (wi : (Jvm.Cond.instantiable C sz).before a0 Z = true) (wz : (Jvm.Cond.initialized C).before a0 Z = true) (hc : k + 1 ≤ R.cells) (hl : n + sz ≤ R.slots) (hp : pc + 3 = pc') (r : ∀ T' h' b, Here p l e R s m args below meth c Z own nm bs ml rt n0 T' h' (k + 1) (n + sz) → b = h.size → n0 ≤ b → Ext h h' → Exa Z h' b C → (∀ {O f d : String} {ty : FieldType}, Laid Z a0 C O f d → parseFieldDescriptor d = some ty → Fld Z h' b O f d (defaultValue ty)) → Run p e below F T' (mkF m pc' ls (.ref b :: st))) : Run p e below F T (mkF m pc ls st) := by
  obtain ⟨⟨hx, hby, hml, hZ, hown, hnm, hret, hlk⟩, hs0, eT, locs, S, N⟩ := X
  subst hp
  obtain ⟨T', h', X', e', E, A, D, -, st'⟩ := newO S hx hZ hown w wi wz eT (g := mkF m pc ls st) rfl (hb hby hd) hc hl
  exact Run.of (fun t q => st' t q) (r T' h' h.size ⟨⟨hx, hby, hml, hZ, hown, hnm, hret, hlk⟩, Nat.le_trans hs0 E.1, e', _, X', N⟩ rfl hs0 E A D)
theorem r_getfield (X : Here p l e R s m args below meth c Z own nm bs ml rt n0 T h k n) {R0 f d : String} {i : Nat} {a : Addr} {v : Value} (hd : decode bs pc = .ok (.getfield i, 3)) (w : (Jvm.Cond.fieldLink own i R0 f d).before a0 Z = true) (Ff : Fld Z h a R0 f d v) (hp : pc + 3 = pc') (r : ∀ T', Here p l e R s m args below meth c Z own nm bs ml rt n0 T' h k n → Run p e below F T' (mkF m pc' ls (v :: st))) : Run p e below F T (mkF m pc ls (.ref a :: st)) := by
  obtain ⟨⟨hx, hby, hml, hZ, hown, hnm, hret, hlk⟩, hs0, eT, locs, S, N⟩ := X
  subst hp
  obtain ⟨T', X', e', st'⟩ := getF S hx hZ hown (host := "") (Or.inl w) Via.refl eT Ff (g := mkF m pc ls (.ref a :: st)) rfl rfl (hb hby hd)
  exact Run.of (fun t q => st' t q) (r T' ⟨⟨hx, hby, hml, hZ, hown, hnm, hret, hlk⟩, hs0, e', _, X', N⟩)
theorem r_putfield (X : Here p l e R s m args below meth c Z own nm bs ml rt n0 T h k n) {R0 f d C : String} {i kk : Nat} {a : Addr} {v old : Value} {ty : FieldType} (hd : decode bs pc = .ok (.putfield i, 3)) (w : (Jvm.Cond.fieldLink own i R0 f d).before a0 Z = true) (Ff : Fld Z h a R0 f d old) (E : Exa Z h a C) (L : (Jvm.Cond.lays C R0 f d).before a0 Z = true ∨ ((Jvm.Cond.laysFinal C R0 f d).before a0 Z = true ∧ own = R0 ∧ nm = "<init>")) (wi : (Jvm.Cond.instantiable C kk).before a0 Z = true) (hty : parseFieldDescriptor d = some ty) (hn : narrow ty v = v) (hf : fits ty v = true) (ge : n0 ≤ a) (hp : pc + 3 = pc') (r : ∀ T' h', Here p l e R s m args below meth c Z own nm bs ml rt n0 T' h' k n → Wr h h' a (Jvm.RoadKit.slotOf Z R0 f d) v → Run p e below F T' (mkF m pc' ls st)) : Run p e below F T (mkF m pc ls (v :: .ref a :: st)) := by
  obtain ⟨⟨hx, hby, hml, hZ, hown, hnm, hret, hlk⟩, hs0, eT, locs, S, N⟩ := X
  subst hp
  obtain ⟨T', h', X', e', W, st'⟩ := putF S hx hZ hown (host := "") (Or.inl w) Via.refl eT Ff E (L.imp id fun q => ⟨q.1, q.2.1, hnm.trans q.2.2⟩) wi hty hn hf (g := mkF m pc ls (v :: .ref a :: st)) rfl rfl (hb hby hd)
  refine Run.of (fun t q => st' t q) (r T' h' ⟨⟨hx, hby, hml, hZ, hown, hnm, hret, hlk⟩, ?_, e', _, X', Fr.snoc X' N ge⟩ W)
  rw [W.size]; exact hs0
theorem r_initObject (X : Here p l e R s m args below meth c Z own nm bs ml rt n0 T h k n) {i : Nat} {a : Addr} (hd : decode bs pc = .ok (.invokespecial i, 3)) (w1 : (Jvm.Cond.methodLink own i Lib.objectInit).before a0 Z = true) (w2 : (Jvm.Cond.instanceMethod Lib.objectInit).before a0 Z = true) (w3 : (Jvm.Cond.code Lib.objectInit ⟨#[0xb1]⟩ 1 none).before a0 Z = true) (hsz : ls.size = ml) (hf : 1 ≤ R.frames) {W : Nat} (hW : (st.map fun v => v.category).sum = W) (hl : W + 12 ≤ R.locals) (hp : pc + 3 = pc') (r : ∀ T', Here p l e R s m args below meth c Z own nm bs ml rt n0 T' h k n → Run p e below F T' (mkF m pc' ls st)) : Run p e below F T (mkF m pc ls (.ref a :: st)) := by
  obtain ⟨⟨hx, hby, hml, hZ, hown, hnm, hret, hlk⟩, hs0, eT, locs, S, N⟩ := X
  subst hp
  obtain ⟨T', X', e', st'⟩ := initO S hx hZ hown w1 w2 w3 eT (g := mkF m pc ls (.ref a :: st)) rfl (by rw [hml]; exact hsz) rfl (hb hby hd) hf (W := W) (by show 2 * 0 + _ ≤ _; rw [hW]; omega) hl
  exact Run.of (fun t q => st' t q) (r T' ⟨⟨hx, hby, hml, hZ, hown, hnm, hret, hlk⟩, hs0, e', _, X', N⟩)
theorem r_callS (X : Here p l e R s m args below meth c Z own nm bs ml rt n0 T h k n) {y : MethodName} {i : Nat} {bs' : ByteArray} {ml' : Nat} {rt' : Option FieldType} {rm : Room} {Q' : Option Value → Heap → Prop} {ps : List FieldType} {rr : Option FieldType} {argsL rest : List Value} {W : Nat} (hd : decode bs pc = .ok (.invokestatic i, 3)) (C : Con l Z y bs' ml' rt' rm argsL.toArray h n0 rm.cells rm.slots Q') (w1 : (Jvm.Cond.methodLink own i y).before a0 Z = true) (w2 : (Jvm.Cond.static y).before a0 Z = true) (w3 : (Jvm.Cond.initialized y.cls).before a0 Z = true) (w4 : (Jvm.Cond.code y bs' ml' rt').before a0 Z = true) (hy : y.cls ≠ "java/lang/invoke/MethodHandle" ∧ y.cls ≠ "java/lang/invoke/VarHandle") (hst : st = argsL.reverse ++ rest) (hsz : ls.size = ml) (hpd : parseMethodDescriptor y.desc = some ⟨ps, rr⟩) (hlen : argsL.length = ps.length) (hW : (rest.map fun v => v.category).sum = W) (hf : rm.frames + 1 ≤ R.frames) (hl : W + (ml' + 11) + rm.locals ≤ R.locals) (hc : k + rm.cells ≤ R.cells) (hs : n + rm.slots ≤ R.slots) (hp : pc + 3 = pc') (r : ∀ v T' h', Here p l e R s m args below meth c Z own nm bs ml rt n0 T' h' (k + rm.cells) (n + rm.slots) → Q' v h' → Run p e below F T' (mkF m pc' ls (v.toList ++ rest))) : Run p e below F T (mkF m pc ls st) := by
  obtain ⟨⟨hx, hby, hml, hZ, hown, hnm, hret, hlk⟩, hs0, eT, locs, S, N⟩ := X
  subst hp hst
  obtain ⟨v, _, B, -, X', ⟨L, hQ, l1, l2, l3⟩, st'⟩ := Jvm.LawKit.callS S hx (y := y) hown (mvT hZ w1) (mvT hZ w2) (mvT hZ w3) (mvT hZ w4) hy (backOf (W := W) (Q := fun v hh L => Q' v hh ∧ n0 ≤ hh.size ∧ Fr n0 L) (C []) hZ w4 w3 hf hl) (g := mkF m pc ls (argsL.reverse ++ rest)) rfl (by rw [hml]; exact hsz) (argsL := argsL) (rest := rest) (lenOf hpd hlen) rfl (by show 2 * 0 + _ ≤ _; rw [hW]; omega) (hb hby hd) (fun _ _ => ⟨rfl, eT, hc, hs⟩)
  obtain ⟨hQ, hs1, hF⟩ := hQ
  have X'' : Here p l e R s m args below meth c Z own nm bs ml rt n0 B.U B.U.heap (k + rm.cells) (n + rm.slots) := ⟨⟨hx, hby, hml, hZ, hown, hnm, hret, hlk⟩, hs1, rfl, B.locs, by rw [l2, l3] at X'; exact X', by rw [l1]; exact Fr.app N hF⟩
  exact Run.of (fun t q => st' t q) (r v B.U B.U.heap X'' hQ)
theorem r_init (X : Here p l e R s m args below meth c Z own nm bs ml rt n0 T h k n) {y : MethodName} {i : Nat} {bs' : ByteArray} {ml' : Nat} {rm : Room} {Q' : Option Value → Heap → Prop} {ps : List FieldType} {rr : Option FieldType} {argsL rest : List Value} {W : Nat} {a : Addr} (hd : decode bs pc = .ok (.invokespecial i, 3)) (C : Con l Z y bs' ml' none rm (.ref a :: argsL).toArray h n0 rm.cells rm.slots Q') (hy1 : y.name = "<init>") (w1 : (Jvm.Cond.methodLink own i y).before a0 Z = true) (w2 : (Jvm.Cond.instanceMethod y).before a0 Z = true) (w3 : (Jvm.Cond.initialized y.cls).before a0 Z = true) (w4 : (Jvm.Cond.code y bs' ml' none).before a0 Z = true) (hy : y.cls ≠ "java/lang/invoke/MethodHandle" ∧ y.cls ≠ "java/lang/invoke/VarHandle") (hst : st = argsL.reverse ++ .ref a :: rest) (hsz : ls.size = ml) (hpd : parseMethodDescriptor y.desc = some ⟨ps, rr⟩) (hlen : argsL.length = ps.length) (hW : (rest.map fun v => v.category).sum = W) (hf : rm.frames + 1 ≤ R.frames) (hl : W + (ml' + 11) + rm.locals ≤ R.locals) (hc : k + rm.cells ≤ R.cells) (hs : n + rm.slots ≤ R.slots) (hp : pc + 3 = pc') (r : ∀ v T' h', Here p l e R s m args below meth c Z own nm bs ml rt n0 T' h' (k + rm.cells) (n + rm.slots) → Q' v h' → Run p e below F T' (mkF m pc' ls (v.toList ++ rest))) : Run p e below F T (mkF m pc ls st) := by
  obtain ⟨⟨hx, hby, hml, hZ, hown, hnm, hret, hlk⟩, hs0, eT, locs, S, N⟩ := X
  subst hp hst
  obtain ⟨v, _, B, -, X', ⟨L, hQ, l1, l2, l3⟩, st'⟩ := S.specialBack hx (y := y) hy1 hown (mvT hZ w1) (mvT hZ w2) (mvT hZ w4) hy (backOf (W := W) (Q := fun v hh L => Q' v hh ∧ n0 ≤ hh.size ∧ Fr n0 L) (C []) hZ w4 w3 hf hl) (g := mkF m pc ls (argsL.reverse ++ .ref a :: rest)) rfl (by rw [hml]; exact hsz) (Steps.refl _) (a := a) (argsL := argsL) (rest := rest) (lenOf hpd hlen) rfl (by show 2 * 0 + _ ≤ _; rw [hW]; omega) (hb hby hd) (fun _ _ => ⟨rfl, eT, hc, hs⟩)
  obtain ⟨hQ, hs1, hF⟩ := hQ
  have X'' : Here p l e R s m args below meth c Z own nm bs ml rt n0 B.U B.U.heap (k + rm.cells) (n + rm.slots) := ⟨⟨hx, hby, hml, hZ, hown, hnm, hret, hlk⟩, hs1, rfl, B.locs, by rw [l2, l3] at X'; exact X', by rw [l1]; exact Fr.app N hF⟩
  exact Run.of (fun t q => st'.trans q) (r v B.U B.U.heap X'' hQ)
theorem r_callV (X : Here p l e R s m args below meth c Z own nm bs ml rt n0 T h k n) {y : MethodName} {i : Nat} {bs' : ByteArray} {ml' : Nat} {rt' : Option FieldType} {rm : Room} {Q' : Option Value → Heap → Prop} {ps : List FieldType} {rr : Option FieldType} {argsL rest : List Value} {W : Nat} {C0 : String} {a : Addr} (hd : decode bs pc = .ok (.invokevirtual i, 3)) (C : Con l Z y bs' ml' rt' rm (.ref a :: argsL).toArray h n0 rm.cells rm.slots Q') (E : Exa Z h a C0) (w1 : (Jvm.Cond.methodLink own i y).before a0 Z = true) (w2 : (Jvm.Cond.declares y).before a0 Z = true) (w5 : (Jvm.Cond.selects C0 y y).before a0 Z = true) (w6 : (Jvm.Cond.instanceMethod y).before a0 Z = true) (w3 : (Jvm.Cond.initialized y.cls).before a0 Z = true) (w4 : (Jvm.Cond.code y bs' ml' rt').before a0 Z = true) (hy : y.cls ≠ "java/lang/invoke/MethodHandle" ∧ y.cls ≠ "java/lang/invoke/VarHandle") (hst : st = argsL.reverse ++ .ref a :: rest) (hsz : ls.size = ml) (hpd : parseMethodDescriptor y.desc = some ⟨ps, rr⟩) (hlen : argsL.length = ps.length) (hW : (rest.map fun v => v.category).sum = W) (hf : rm.frames + 1 ≤ R.frames) (hl : W + (ml' + 11) + rm.locals ≤ R.locals) (hc : k + rm.cells ≤ R.cells) (hs : n + rm.slots ≤ R.slots) (hp : pc + 3 = pc') (r : ∀ v T' h', Here p l e R s m args below meth c Z own nm bs ml rt n0 T' h' (k + rm.cells) (n + rm.slots) → Q' v h' → Run p e below F T' (mkF m pc' ls (v.toList ++ rest))) : Run p e below F T (mkF m pc ls st) := by
  obtain ⟨⟨hx, hby, hml, hZ, hown, hnm, hret, hlk⟩, hs0, eT, locs, S, N⟩ := X
  subst hp hst
  obtain ⟨cq, kq, qa, qb, qc⟩ := isOf hZ eT E
  obtain ⟨v, _, B, -, X', ⟨L, hQ, l1, l2, l3⟩, st'⟩ := S.virtualBack hx (y := y) (z := y) hown (mvT hZ w1) (mvT hZ w2) (notFace_of_selects (args := #[]) (mvT hZ w5)) (mvT hZ w5) (mvT hZ w6) hy (backOf (W := W) (Q := fun v hh L => Q' v hh ∧ n0 ≤ hh.size ∧ Fr n0 L) (C []) hZ w4 w3 hf hl) qa qc (g := mkF m pc ls (argsL.reverse ++ .ref a :: rest)) rfl (by rw [hml]; exact hsz) (Steps.refl _) (argsL := argsL) (rest := rest) (lenOf hpd hlen) rfl (by show 2 * 0 + _ ≤ _; rw [hW]; omega) (hb hby hd) (fun _ _ => ⟨rfl, eT, hc, hs⟩)
  obtain ⟨hQ, hs1, hF⟩ := hQ
  have X'' : Here p l e R s m args below meth c Z own nm bs ml rt n0 B.U B.U.heap (k + rm.cells) (n + rm.slots) := ⟨⟨hx, hby, hml, hZ, hown, hnm, hret, hlk⟩, hs1, rfl, B.locs, by rw [l2, l3] at X'; exact X', by rw [l1]; exact Fr.app N hF⟩
  exact Run.of (fun t q => st'.trans q) (r v B.U B.U.heap X'' hQ)
end Own
/-- an int by its bits' number -/
theorem n_bits (x : Int32) : x.toInt = ((x.toBitVec.toNat : Int) + 2147483648) % 4294967296 - 2147483648 := by
  have e : x.toInt = x.toBitVec.toInt := rfl
  have hb := x.toBitVec.isLt
  rw [e, BitVec.toInt_eq_toNat_cond]
  split <;> omega
theorem n_i2b (x : Int32) : (x.toInt8.toInt32).toInt = (x.toInt + 128) % 256 - 128 := by
  rw [Int8.toInt_toInt32, Int32.toInt_toInt8, Int.bmod_def]; omega
theorem n_i2c (x : Int32) : (x.toUInt32.toUInt16.toUInt32.toInt32).toInt = x.toInt % 65536 := by
  have h : (x.toUInt32.toUInt16.toUInt32.toInt32).toBitVec.toNat = x.toBitVec.toNat % 65536 := by
    show ((x.toBitVec.setWidth 16).setWidth 32).toNat = _
    rw [BitVec.toNat_setWidth, BitVec.toNat_setWidth]; omega
  have h1 := n_bits (x.toUInt32.toUInt16.toUInt32.toInt32)
  have h2 := n_bits x
  have h3 := x.toBitVec.isLt
  omega
theorem n_narC (x : Int32) : nar .char x.toUInt32.toUInt16.toUInt32.toInt32 = x.toUInt32.toUInt16.toUInt32.toInt32 := by
  apply Int32.toInt_inj.mp
  show (Int32.toUInt32 _).toUInt16.toUInt32.toInt32.toInt = _
  rw [n_i2c, n_i2c]; omega
theorem n_narB (x : Int32) : nar .byte x.toInt8.toInt32 = x.toInt8.toInt32 := by
  apply Int32.toInt_inj.mp
  show (Int32.toInt8 _).toInt32.toInt = _
  rw [n_i2b, n_i2b]; omega
theorem n_add {x y : Int32} {a b : Int} (hx : x.toInt = a) (hy : y.toInt = b) (h1 : -2147483648 ≤ a + b) (h2 : a + b ≤ 2147483647) : (x + y).toInt = a + b := by
  subst hx hy; exact Jvm.Kit.i32_add (by omega) (by omega)
theorem n_sub {x y : Int32} {a b : Int} (hx : x.toInt = a) (hy : y.toInt = b) (h1 : -2147483648 ≤ a - b) (h2 : a - b ≤ 2147483647) : (x - y).toInt = a - b := by
  subst hx hy; exact Jvm.Kit.i32_sub (by omega) (by omega)
theorem n_nat {x : Int32} {n : Nat} (h : x.toInt = n) : x = Int32.ofNat n := by
  have a := x.toInt_lt
  exact Int32.toInt_inj.mp (by rw [h, Int32.toInt_ofNat_of_lt (by omega)])
theorem n_max (x : Int32) : 0 ≤ (x &&& (2147483647 : Int32)).toInt := by
  have : (x &&& (2147483647 : Int32)).toInt = x.toInt % 2 ^ 31 := Jvm.Kit.i32_mask x 2147483647 (k := 31) (by decide) (by decide)
  omega
theorem n_bitsL (x : Int64) : x.toInt = ((x.toBitVec.toNat : Int) + 9223372036854775808) % 18446744073709551616 - 9223372036854775808 := by
  have e : x.toInt = x.toBitVec.toInt := rfl
  have hb := x.toBitVec.isLt
  rw [e, BitVec.toInt_eq_toNat_cond]
  split <;> omega
theorem n_ushr (x y : Int32) (s : Nat) (hs : ((y &&& 31).toUInt32).toNat = s) (h1 : s < 32) : ((XT.ushr x y).toBitVec.toNat : Nat) = x.toBitVec.toNat / 2 ^ s := by
  show ((x.toUInt32 >>> (y &&& 31).toUInt32).toInt32).toBitVec.toNat = _
  simp only [UInt32.toBitVec_toInt32, UInt32.toBitVec_shiftRight, Int32.toBitVec_toUInt32]
  simp [BitVec.toNat_ushiftRight, Nat.shiftRight_eq_div_pow]
  have h2 : y.toBitVec.toNat &&& 31 = s := hs
  rw [h2, Nat.mod_eq_of_lt h1]
theorem pn_com_example_nestful_nestful_header_FieldText : plainName "com/example/nestful/nestful/header/FieldText" = true := by first | (simp [plainName, overriddenIn]; done) | decide +kernel
theorem d_isValueChar_0 : decode prog_17_method_5_code 0 = .ok (.iload_n 0, 1) := by decide +kernel
theorem d_isValueChar_1 : decode prog_17_method_5_code 1 = .ok (.bipush 9, 2) := by decide +kernel
theorem d_isValueChar_3 : decode prog_17_method_5_code 3 = .ok (.if_icmp .eq 29, 3) := by decide +kernel
theorem d_isValueChar_32 : decode prog_17_method_5_code 32 = .ok (.iconst 1, 1) := by decide +kernel
theorem d_isValueChar_33 : decode prog_17_method_5_code 33 = .ok (.goto 4, 3) := by decide +kernel
theorem d_isValueChar_37 : decode prog_17_method_5_code 37 = .ok (.ireturn, 1) := by decide +kernel
theorem d_isValueChar_6 : decode prog_17_method_5_code 6 = .ok (.iload_n 0, 1) := by decide +kernel
theorem d_isValueChar_7 : decode prog_17_method_5_code 7 = .ok (.bipush 32, 2) := by decide +kernel
theorem d_isValueChar_9 : decode prog_17_method_5_code 9 = .ok (.if_icmp .lt 9, 3) := by decide +kernel
theorem d_isValueChar_18 : decode prog_17_method_5_code 18 = .ok (.iload_n 0, 1) := by decide +kernel
theorem d_isValueChar_19 : decode prog_17_method_5_code 19 = .ok (.sipush 128, 3) := by decide +kernel
theorem d_isValueChar_22 : decode prog_17_method_5_code 22 = .ok (.if_icmp .lt 14, 3) := by decide +kernel
theorem d_isValueChar_36 : decode prog_17_method_5_code 36 = .ok (.iconst 0, 1) := by decide +kernel
theorem d_isValueChar_25 : decode prog_17_method_5_code 25 = .ok (.iload_n 0, 1) := by decide +kernel
theorem d_isValueChar_26 : decode prog_17_method_5_code 26 = .ok (.sipush 255, 3) := by decide +kernel
theorem d_isValueChar_29 : decode prog_17_method_5_code 29 = .ok (.if_icmp .gt 7, 3) := by decide +kernel
theorem d_isValueChar_12 : decode prog_17_method_5_code 12 = .ok (.iload_n 0, 1) := by decide +kernel
theorem d_isValueChar_13 : decode prog_17_method_5_code 13 = .ok (.bipush 126, 2) := by decide +kernel
theorem d_isValueChar_15 : decode prog_17_method_5_code 15 = .ok (.if_icmp .le 17, 3) := by decide +kernel
theorem pn_com_example_nestful_nestful_header_FieldTextIsValueCharPinLaw : plainName "com/example/nestful/nestful/header/FieldTextIsValueCharPinLaw" = true := by first | (simp [plainName, overriddenIn]; done) | decide +kernel
theorem pd_isValueChar : parseMethodDescriptor "(C)Z" = some ⟨[.char], (some .boolean)⟩ := by decide +kernel
set_option maxRecDepth 65536 in
set_option maxHeartbeats 40000000 in
theorem con_f (l : Launch) (Z : State) (a0 : Array Value) (hw : ∀ d ∈ tables_1, d.before a0 Z = true) (p1 : Int32) (h0 : Heap) (n0 : Nat) (Z0 : n0 ≤ h0.size)  : Con l Z (⟨"com/example/nestful/nestful/header/FieldText", "isValueChar", "(C)Z"⟩ : MethodName) prog_17_method_5_code 1 (some .boolean) ({ frames := 0, cells := 0, slots := 0, locals := 0 } : Room) #[(.int p1)] h0 n0 0 0 (fun v h => (∃ z : Int32, v = some (.int z) ∧ (z.toInt = 1 ∧ (p1.toInt = 9 ∨ (32 ≤ p1.toInt ∧ p1.toInt ≤ 126) ∨ (128 ≤ p1.toInt ∧ p1.toInt ≤ 255)) ∨ z.toInt = 0 ∧ ¬ (p1.toInt = 9 ∨ (32 ≤ p1.toInt ∧ p1.toInt ≤ 126) ∨ (128 ≤ p1.toInt ∧ p1.toInt ≤ 255)))) ∧ h0 = h) := by
  refine Con.of_body (ls := #[.val (.int p1)]) pn_com_example_nestful_nestful_header_FieldText (fun m => by first | (simp [entryFrame, mkF, argsToLocals, Value.category]; done) | rfl) Z0 (fun p e s m below meth c T (X : Here p l e ({ frames := 0, cells := 0, slots := 0, locals := 0 } : Room) s m #[(.int p1)] below meth c Z "com/example/nestful/nestful/header/FieldText" "isValueChar" prog_17_method_5_code 1 (some .boolean) n0 T h0 0 0) => ?_)
  refine r_iloadN X (pc' := 1) d_isValueChar_0 rfl rfl ?_
  refine r_bipush X (pc' := 3) (v := (9 : Int32)) d_isValueChar_1 rfl rfl ?_
  refine r_icmp X (pc' := 32) (pc2 := 6) d_isValueChar_3 (by decide) (by decide) rfl (a := p1.toInt) (b := 9) rfl rfl (fun (cq1 : p1.toInt = 9) => ?_) (fun (cq1 : ¬ (p1.toInt = 9)) => ?_)
  · refine r_iconst X (pc' := 33) (v := (1 : Int32)) d_isValueChar_32 rfl rfl ?_
    refine r_goto X (pc' := 37) d_isValueChar_33 (by decide) (by decide) ?_
    exact r_retN X (by simp) d_isValueChar_37 (z := (1 : Int32)) (w := (1 : Int32)) rfl ⟨⟨_, rfl, Or.inl ⟨rfl, by omega⟩⟩, rfl⟩ (by decide) (by decide)
  · refine r_iloadN X (pc' := 7) d_isValueChar_6 rfl rfl ?_
    refine r_bipush X (pc' := 9) (v := (32 : Int32)) d_isValueChar_7 rfl rfl ?_
    refine r_icmp X (pc' := 18) (pc2 := 12) d_isValueChar_9 (by decide) (by decide) rfl (a := p1.toInt) (b := 32) rfl rfl (fun (cq2 : p1.toInt < 32) => ?_) (fun (cq2 : ¬ (p1.toInt < 32)) => ?_)
    · refine r_iloadN X (pc' := 19) d_isValueChar_18 rfl rfl ?_
      refine r_sipush X (pc' := 22) (v := (128 : Int32)) d_isValueChar_19 rfl rfl ?_
      refine r_icmp X (pc' := 36) (pc2 := 25) d_isValueChar_22 (by decide) (by decide) rfl (a := p1.toInt) (b := 128) rfl rfl (fun (cq3 : p1.toInt < 128) => ?_) (fun (cq3 : ¬ (p1.toInt < 128)) => ?_)
      · refine r_iconst X (pc' := 37) (v := (0 : Int32)) d_isValueChar_36 rfl rfl ?_
        exact r_retN X (by simp) d_isValueChar_37 (z := (0 : Int32)) (w := (0 : Int32)) rfl ⟨⟨_, rfl, Or.inr ⟨rfl, by omega⟩⟩, rfl⟩ (by decide) (by decide)
      · refine r_iloadN X (pc' := 26) d_isValueChar_25 rfl rfl ?_
        refine r_sipush X (pc' := 29) (v := (255 : Int32)) d_isValueChar_26 rfl rfl ?_
        refine r_icmp X (pc' := 36) (pc2 := 32) d_isValueChar_29 (by decide) (by decide) rfl (a := p1.toInt) (b := 255) rfl rfl (fun (cq4 : 255 < p1.toInt) => ?_) (fun (cq4 : ¬ (255 < p1.toInt)) => ?_)
        · refine r_iconst X (pc' := 37) (v := (0 : Int32)) d_isValueChar_36 rfl rfl ?_
          exact r_retN X (by simp) d_isValueChar_37 (z := (0 : Int32)) (w := (0 : Int32)) rfl ⟨⟨_, rfl, Or.inr ⟨rfl, by omega⟩⟩, rfl⟩ (by decide) (by decide)
        · refine r_iconst X (pc' := 33) (v := (1 : Int32)) d_isValueChar_32 rfl rfl ?_
          refine r_goto X (pc' := 37) d_isValueChar_33 (by decide) (by decide) ?_
          exact r_retN X (by simp) d_isValueChar_37 (z := (1 : Int32)) (w := (1 : Int32)) rfl ⟨⟨_, rfl, Or.inl ⟨rfl, by omega⟩⟩, rfl⟩ (by decide) (by decide)
    · refine r_iloadN X (pc' := 13) d_isValueChar_12 rfl rfl ?_
      refine r_bipush X (pc' := 15) (v := (126 : Int32)) d_isValueChar_13 rfl rfl ?_
      refine r_icmp X (pc' := 32) (pc2 := 18) d_isValueChar_15 (by decide) (by decide) rfl (a := p1.toInt) (b := 126) rfl rfl (fun (cq5 : p1.toInt ≤ 126) => ?_) (fun (cq5 : ¬ (p1.toInt ≤ 126)) => ?_)
      · refine r_iconst X (pc' := 33) (v := (1 : Int32)) d_isValueChar_32 rfl rfl ?_
        refine r_goto X (pc' := 37) d_isValueChar_33 (by decide) (by decide) ?_
        exact r_retN X (by simp) d_isValueChar_37 (z := (1 : Int32)) (w := (1 : Int32)) rfl ⟨⟨_, rfl, Or.inl ⟨rfl, by omega⟩⟩, rfl⟩ (by decide) (by decide)
      · refine r_iloadN X (pc' := 19) d_isValueChar_18 rfl rfl ?_
        refine r_sipush X (pc' := 22) (v := (128 : Int32)) d_isValueChar_19 rfl rfl ?_
        refine r_icmp X (pc' := 36) (pc2 := 25) d_isValueChar_22 (by decide) (by decide) rfl (a := p1.toInt) (b := 128) rfl rfl (fun (cq6 : p1.toInt < 128) => ?_) (fun (cq6 : ¬ (p1.toInt < 128)) => ?_)
        · refine r_iconst X (pc' := 37) (v := (0 : Int32)) d_isValueChar_36 rfl rfl ?_
          exact r_retN X (by simp) d_isValueChar_37 (z := (0 : Int32)) (w := (0 : Int32)) rfl ⟨⟨_, rfl, Or.inr ⟨rfl, by omega⟩⟩, rfl⟩ (by decide) (by decide)
        · refine r_iloadN X (pc' := 26) d_isValueChar_25 rfl rfl ?_
          refine r_sipush X (pc' := 29) (v := (255 : Int32)) d_isValueChar_26 rfl rfl ?_
          refine r_icmp X (pc' := 36) (pc2 := 32) d_isValueChar_29 (by decide) (by decide) rfl (a := p1.toInt) (b := 255) rfl rfl (fun (cq7 : 255 < p1.toInt) => ?_) (fun (cq7 : ¬ (255 < p1.toInt)) => ?_)
          · refine r_iconst X (pc' := 37) (v := (0 : Int32)) d_isValueChar_36 rfl rfl ?_
            exact r_retN X (by simp) d_isValueChar_37 (z := (0 : Int32)) (w := (0 : Int32)) rfl ⟨⟨_, rfl, Or.inr ⟨rfl, by omega⟩⟩, rfl⟩ (by decide) (by decide)
          · refine r_iconst X (pc' := 33) (v := (1 : Int32)) d_isValueChar_32 rfl rfl ?_
            refine r_goto X (pc' := 37) d_isValueChar_33 (by decide) (by decide) ?_
            exact r_retN X (by simp) d_isValueChar_37 (z := (1 : Int32)) (w := (1 : Int32)) rfl ⟨⟨_, rfl, Or.inl ⟨rfl, by omega⟩⟩, rfl⟩ (by decide) (by decide)
set_option maxRecDepth 65536 in
set_option maxHeartbeats 40000000 in
theorem con_law (l : Launch) (Z : State) (a0 : Array Value) (hw : ∀ d ∈ tables_1, d.before a0 Z = true) (p1 : Int32) (h0 : Heap) (n0 : Nat) (Z0 : n0 ≤ h0.size)  : Con l Z x code maxLocals ret room_1 #[(.int p1)] h0 n0 0 0 (fun v _ => v = some (.int 1)) := by
  refine Con.of_body (ls := #[.val (.int p1), .unset, .unset, .unset]) pn_com_example_nestful_nestful_header_FieldTextIsValueCharPinLaw (fun m => by first | (simp [entryFrame, mkF, argsToLocals, Value.category, maxLocals]; done) | rfl) Z0 (fun p e s m below meth c T (X : Here p l e room_1 s m #[(.int p1)] below meth c Z "com/example/nestful/nestful/header/FieldTextIsValueCharPinLaw" "law" code 4 (some .boolean) n0 T h0 0 0) => ?_)
  obtain ⟨cc, hcc⟩ : ∃ z, p1.toUInt32.toUInt16.toUInt32.toInt32 = z := ⟨_, rfl⟩
  have kc : cc.toInt = p1.toInt % 65536 := by rw [← hcc]; exact n_i2c p1
  refine r_iloadN X (pc' := 1) at_0 rfl rfl ?_
  refine r_i2c X (pc' := 2) (z := cc) at_1 hcc rfl ?_
  refine r_istoreN X (pc' := 3) (ls' := #[.val (.int p1), .val (.int cc), .unset, .unset]) at_2 rfl rfl ?_
  refine r_iloadN X (pc' := 4) at_3 rfl rfl ?_
  refine r_istoreN X (pc' := 5) (ls' := #[.val (.int p1), .val (.int cc), .val (.int cc), .unset]) at_4 rfl rfl ?_
  have J : ∀ b : Int32, (b.toInt = 1 ∧ (cc.toInt ≤ 255 ∧ ¬ cc.toInt = 127 ∧ (32 ≤ cc.toInt ∨ cc.toInt = 9)) ∨ b.toInt = 0 ∧ ¬ (cc.toInt ≤ 255 ∧ ¬ cc.toInt = 127 ∧ (32 ≤ cc.toInt ∨ cc.toInt = 9))) → Run p e below (Fnl s n0 0 0 (fun v _ => v = some (.int 1))) T (mkF m 35 #[.val (.int p1), .val (.int cc), .val (.int cc), .unset] [(.int b)]) := by
    intro b hb
    refine r_istoreN X (pc' := 36) (ls' := #[.val (.int p1), .val (.int cc), .val (.int cc), .val (.int b)]) at_35 rfl rfl ?_
    refine r_iloadN X (pc' := 37) at_36 rfl rfl ?_
    refine r_callS X (pc' := 40) at_37 (con_f l Z a0 hw cc h0 n0 Z0) (wd hw 0 rfl) (wd hw 1 rfl) (wd hw 2 rfl) (wd hw 3 rfl) (by decide) (argsL := [(.int cc)]) (rest := []) (W := 0) rfl rfl pd_isValueChar rfl rfl (by decide) (by decide) (by decide) (by decide) rfl (fun v8 T9 h10 X11 QQ12 => ?_)
    obtain ⟨⟨z, rfl, hz⟩, rfl⟩ := QQ12
    show Run p e below _ _ (mkF m 40 #[.val (.int p1), .val (.int cc), .val (.int cc), .val (.int b)] [(.int z)])
    refine r_iloadN X11 (pc' := 41) at_40 rfl rfl ?_
    refine r_icmp X11 (pc' := 48) (pc2 := 44) at_41 (by decide) (by decide) rfl (a := z.toInt) (b := b.toInt) rfl rfl (fun (cq13 : ¬ z.toInt = b.toInt) => ?_) (fun (cq13 : ¬ (¬ z.toInt = b.toInt)) => ?_)
    · refine r_iconst X11 (pc' := 49) (v := (0 : Int32)) at_48 rfl rfl ?_
      exfalso; omega
    · refine r_iconst X11 (pc' := 45) (v := (1 : Int32)) at_44 rfl rfl ?_
      refine r_goto X11 (pc' := 49) at_45 (by decide) (by decide) ?_
      exact r_retN X11 (by simp) at_49 (z := (1 : Int32)) (w := (1 : Int32)) rfl rfl (by decide) (by decide)
  refine r_iloadN X (pc' := 6) at_5 rfl rfl ?_
  refine r_sipush X (pc' := 9) (v := (255 : Int32)) at_6 rfl rfl ?_
  refine r_icmp X (pc' := 34) (pc2 := 12) at_9 (by decide) (by decide) rfl (a := cc.toInt) (b := 255) rfl rfl (fun (cq14 : 255 < cc.toInt) => ?_) (fun (cq14 : ¬ (255 < cc.toInt)) => ?_)
  · refine r_iconst X (pc' := 35) (v := (0 : Int32)) at_34 rfl rfl ?_
    exact J (0 : Int32) (Or.inr ⟨rfl, by omega⟩)
  · refine r_iloadN X (pc' := 13) at_12 rfl rfl ?_
    refine r_bipush X (pc' := 15) (v := (127 : Int32)) at_13 rfl rfl ?_
    refine r_icmp X (pc' := 34) (pc2 := 18) at_15 (by decide) (by decide) rfl (a := cc.toInt) (b := 127) rfl rfl (fun (cq15 : cc.toInt = 127) => ?_) (fun (cq15 : ¬ (cc.toInt = 127)) => ?_)
    · refine r_iconst X (pc' := 35) (v := (0 : Int32)) at_34 rfl rfl ?_
      exact J (0 : Int32) (Or.inr ⟨rfl, by omega⟩)
    · refine r_iloadN X (pc' := 19) at_18 rfl rfl ?_
      refine r_bipush X (pc' := 21) (v := (32 : Int32)) at_19 rfl rfl ?_
      refine r_icmp X (pc' := 30) (pc2 := 24) at_21 (by decide) (by decide) rfl (a := cc.toInt) (b := 32) rfl rfl (fun (cq16 : 32 ≤ cc.toInt) => ?_) (fun (cq16 : ¬ (32 ≤ cc.toInt)) => ?_)
      · refine r_iconst X (pc' := 31) (v := (1 : Int32)) at_30 rfl rfl ?_
        refine r_goto X (pc' := 35) at_31 (by decide) (by decide) ?_
        exact J (1 : Int32) (Or.inl ⟨rfl, by omega⟩)
      · refine r_iloadN X (pc' := 25) at_24 rfl rfl ?_
        refine r_bipush X (pc' := 27) (v := (9 : Int32)) at_25 rfl rfl ?_
        refine r_icmp X (pc' := 34) (pc2 := 30) at_27 (by decide) (by decide) rfl (a := cc.toInt) (b := 9) rfl rfl (fun (cq17 : ¬ cc.toInt = 9) => ?_) (fun (cq17 : ¬ (¬ cc.toInt = 9)) => ?_)
        · refine r_iconst X (pc' := 35) (v := (0 : Int32)) at_34 rfl rfl ?_
          exact J (0 : Int32) (Or.inr ⟨rfl, by omega⟩)
        · refine r_iconst X (pc' := 31) (v := (1 : Int32)) at_30 rfl rfl ?_
          refine r_goto X (pc' := 35) at_31 (by decide) (by decide) ?_
          exact J (1 : Int32) (Or.inl ⟨rfl, by omega⟩)
set_option maxRecDepth 65536 in
set_option maxHeartbeats 40000000 in
theorem comes_1 {Post : Tables → Env → Array Value → State → Outcome → State → Prop} (hpost : ∀ tb e args s v u, (limb_1_1.after args s (.returned v) u = true ∧ limb_1_2.after args s (.returned v) u = true ∧ True) → FrameEnd s (.returned v) u (Jvm.fieldLocs frame_1_writes args s ++ Jvm.arrayLocs frame_1_arrays args s ++ Jvm.staticLocs frame_1_statics s) 0 0 → Post tb e args s (.returned v) u) :
    ArmFor flags0 classFile x code maxLocals ret World_1 tables_1 room_1 Calls_1 rest_1 Pre_1 Post := by
  intro l hfl _ _ p e ha hc hk s m args below hf hA hF happ hP
  obtain ⟨hcalls, hrest, hpre⟩ := hP
  obtain ⟨-, -, -, hnamed, -, -, -, hat⟩ := (Spec.applies_iff hf).mp happ
  obtain ⟨hg, hn⟩ := and_e (Cond.before_iff.mp (show (Jvm.Cond.and given_1 narrow_1).before args s = true from hpre))
  obtain ⟨gc, gr0⟩ := and_e hg
  obtain ⟨w0, rfl⟩ : ∃ w0 : Value, args = #[w0] := by
    have hs : args.size = 1 := by simpa [Cond.value, given_1] using gc
    obtain ⟨L⟩ := args
    match L, hs with
    | [w0], _ => exact ⟨w0, rfl⟩
  have hw := fun d (hd : d ∈ tables_1) => atoms_spec (ws := Jvm.Cond.code x code maxLocals ret :: tables_1) hat d (List.mem_cons_of_mem _ hd)
  obtain ⟨i0, ei0⟩ := is_v gr0
  obtain rfl : w0 = (.int i0) := Option.some.inj ei0
  obtain ⟨n, o, h1, h2, h3, _, L, rfl, ⟨rfl, -, N⟩, hq⟩ := con_law l s _ hw i0 s.heap s.heap.size (Nat.le_refl _) tables_1 p e ha hc hk s m _ below hf ((Spec.applies_iff_loose hf).mp happ).1 ⟨rfl, State.Warmed39.refl s, rfl⟩ trivial
  refine ⟨n, _, h1, h2, h3, hpost _ _ _ _ _ _ ⟨Cond.after_iff.mpr rfl, Cond.after_iff.mpr (eq_i res_at (Term.int_eval (1)) rfl), trivial⟩ ⟨hq.1, hq.2.1, (hq.2.2.sift fun y hy => Or.inr (N y hy)).mono (by decide) (by decide)⟩⟩
theorem main_1_1 : Claimed_1_1 := comes_1 fun _ _ _ _ _ _ h hF => ⟨h.1, hF⟩
theorem main_1_2 : Claimed_1_2 := comes_1 fun _ _ _ _ _ _ h hF => ⟨h.2.1, hF⟩
end Jvm.Pilot.@@N@@
namespace Jvm.Pilot.@@N@@
open Jvm Jvm.ClassFile Sem Op Lib Jvm.Free Jvm.Stand Jvm.Pilot.@@N@@.Jvm.D
/-! MADE BY PROGRAM (witnessworld.py) out of the Statement's table words and the real class files: 9 classes; the members and pool entries that the words name. The judged class is class 1, her method 1. -/
namespace start1
open Jvm.ClassFile
def u (s : String) : CpInfo := .utf8 (stringToUtf16 s)
/-- a pool by its gaps: so many unusable entries, then the entry; so many at the end -/
def gap : Nat → List CpInfo → List CpInfo
  | 0, r => r
  | n + 1, r => .unusable :: gap n r
def poolList (es : List (Nat × CpInfo)) (last : Nat) : List CpInfo := es.foldr (fun e r => gap e.1 (e.2 :: r)) (gap last [])
def pool (es : List (Nat × CpInfo)) (last : Nat) : Array CpInfo := ⟨poolList es last⟩
def fileOf (pool : Array CpInfo) (this : Nat) (attrs : Array Attribute := #[]) (ms : Array MethodInfo := #[]) (fl : Nat := 33) (sup : Nat := 0) (ifs : Array Nat := #[]) (fds : Array FieldInfo := #[]) : ClassFile where
  minorVersion := 0
  majorVersion := 65
  constantPool := pool
  accessFlags := fl
  thisClass := this
  superClass := sup
  interfaces := ifs
  fields := fds
  methods := ms
  attributes := attrs
def plain (name : String) (sup : Option ClassId) : Class where
  name := name
  kind := .ordinary
  loader := none
  accessFlags := 33
  super := sup
  interfaces := #[]
  cf := none
  fields := #[]
  methods := #[]
  instanceTypes := #[]
  staticTypes := #[]
  resolved := #[]
  callSites := []
  init := .initialized
  statics := none
  mirror := none

def pool0 : Array CpInfo := pool [(5, u "<init>"), (0, u "()V"), (1, .class_ 10), (1, u "java/lang/Object")] 113

def k0m0 : Method := { name := "<init>", desc := "()V", sig := { parameters := [], returnType := none }, accessFlags := 1, code := none }
/-- java/lang/Object -/
def k0 : Class := { plain "java/lang/Object" none with
  accessFlags := 33
  interfaces := #[]
  cf := some (fileOf pool0 8 #[] #[{ accessFlags := 1, nameIndex := 5, descriptorIndex := 6, attributes := #[] }] 33 0 #[] #[])
  fields := #[]
  methods := #[k0m0]
  instanceTypes := #[]
  staticTypes := #[]
  resolved := Array.replicate 124 none
  statics := none }

def pool1 : Array CpInfo := pool [(2, .class_ 4), (1, u "java/lang/Object"), (0, u "<init>"), (0, u "()V"), (0, .methodref 8 9), (0, .class_ 10), (0, .nameAndType 11 12), (0, u "com/example/nestful/nestful/header/FieldText"), (0, u "isValueChar"), (0, u "(C)Z"), (0, .class_ 14), (0, u "com/example/nestful/nestful/header/FieldTextIsValueCharPinLaw"), (2, u "law"), (0, u "(I)Z")] 3

def k1m0 : Method := { name := "<init>", desc := "()V", sig := { parameters := [], returnType := none }, accessFlags := 1, code := none }
def k1c1 : Code := { maxStack := 2, maxLocals := 4, code := code, exceptionTable := #[], attributes := #[] }
def k1m1 : Method := { name := "law", desc := "(I)Z", sig := { parameters := [.int], returnType := some .boolean }, accessFlags := 9, code := some k1c1 }
/-- com/example/nestful/nestful/header/FieldTextIsValueCharPinLaw -/
def k1 : Class := { plain "com/example/nestful/nestful/header/FieldTextIsValueCharPinLaw" (some 0) with
  accessFlags := 49
  interfaces := #[]
  cf := some (fileOf pool1 13 #[] #[{ accessFlags := 1, nameIndex := 5, descriptorIndex := 6, attributes := #[] }, { accessFlags := 9, nameIndex := 17, descriptorIndex := 18, attributes := #[] }] 49 2 #[] #[])
  fields := #[]
  methods := #[k1m0, k1m1]
  instanceTypes := #[]
  staticTypes := #[]
  resolved := Array.replicate 22 none
  statics := none }

def pool2 : Array CpInfo := pool [(2, .class_ 4), (1, u "java/lang/Object"), (0, u "<init>"), (0, u "()V"), (21, .class_ 30), (1, u "com/example/nestful/nestful/header/FieldText"), (1, u "(C)Z"), (6, u "isValueChar")] 2

def k2m0 : Method := { name := "<init>", desc := "()V", sig := { parameters := [], returnType := none }, accessFlags := 2, code := none }
def k2c1 : Code := { maxStack := 2, maxLocals := 1, code := prog_17_method_5_code, exceptionTable := #[], attributes := #[] }
def k2m1 : Method := { name := "isValueChar", desc := "(C)Z", sig := { parameters := [.char], returnType := some .boolean }, accessFlags := 9, code := some k2c1 }
/-- com/example/nestful/nestful/header/FieldText -/
def k2 : Class := { plain "com/example/nestful/nestful/header/FieldText" (some 0) with
  accessFlags := 33
  interfaces := #[]
  cf := some (fileOf pool2 28 #[] #[{ accessFlags := 2, nameIndex := 5, descriptorIndex := 6, attributes := #[] }, { accessFlags := 9, nameIndex := 39, descriptorIndex := 32, attributes := #[] }] 33 2 #[] #[])
  fields := #[]
  methods := #[k2m0, k2m1]
  instanceTypes := #[]
  staticTypes := #[]
  resolved := Array.replicate 42 none
  statics := none }

def pool3 : Array CpInfo := pool [(1, u "java/lang/Cloneable"), (0, .class_ 1), (0, u "java/lang/Object"), (0, .class_ 3)] 3

/-- java/lang/Cloneable -/
def k3 : Class := { plain "java/lang/Cloneable" (some 0) with
  accessFlags := 1537
  interfaces := #[]
  cf := some (fileOf pool3 2 #[] #[] 1537 4 #[] #[])
  fields := #[]
  methods := #[]
  instanceTypes := #[]
  staticTypes := #[]
  resolved := Array.replicate 8 none
  statics := none }

def pool4 : Array CpInfo := pool [(1, u "java/io/Serializable"), (0, .class_ 1), (0, u "java/lang/Object"), (0, .class_ 3)] 3

/-- java/io/Serializable -/
def k4 : Class := { plain "java/io/Serializable" (some 0) with
  accessFlags := 1537
  interfaces := #[]
  cf := some (fileOf pool4 2 #[] #[] 1537 4 #[] #[])
  fields := #[]
  methods := #[]
  instanceTypes := #[]
  staticTypes := #[]
  resolved := Array.replicate 8 none
  statics := none }

/-- the primitive byte -/
def k5 : Class := { plain "byte" none with kind := .primitive 'B', accessFlags := 0x411 }
/-- [B -/
def k6 : Class := { plain "[B" (some 0) with kind := .array 5 .byte, interfaces := #[3, 4], accessFlags := 1041 }

/-- the primitive int -/
def k7 : Class := { plain "int" none with kind := .primitive 'I', accessFlags := 0x411 }
/-- [I -/
def k8 : Class := { plain "[I" (some 0) with kind := .array 7 .int, interfaces := #[3, 4], accessFlags := 1041 }

def heap : Heap := #[]
def classes : Array Class := #[k0, k1, k2, k3, k4, k5, k6, k7, k8]
def interned : List (Array UInt16 × Addr) := []
def slotsUsed : Nat := 0
def theMethod : MethodId := ⟨1, 1⟩
def args0 : Array Value := #[.int 5]
def aboutOver (below : List Frame) : State where
  vm := { classes := classes, interned := interned.toArray }
  heap := heap
  slotsUsed := slotsUsed
  threads := #[{ frames := .invoking theMethod args0 :: below }]
def below0 : List Frame := [.native { method := ⟨0, 0⟩, args := #[] }]
def about1 : State := aboutOver below0
def p0 : Program := .bare "" "" ""
def e0 : Env := launch0.env 0 0 0
theorem w_frames : about1.frames = Frame.invoking theMethod args0 :: below0 := rfl
set_option maxRecDepth 65536 in
theorem w_args : argsFit about1.vm theMethod args0 = true := by decide +kernel
set_option maxRecDepth 65536 in
theorem w_heap : heapFits about1 = true := by decide +kernel
set_option maxRecDepth 65536 in
theorem w_runnable : about1.curStatus? = some .runnable := by decide +kernel
set_option maxRecDepth 65536 in
theorem w_alone : about1.alone = true := by decide +kernel
set_option maxRecDepth 65536 in
theorem w_named : about1.methodNamed? x = some theMethod := by decide +kernel
set_option maxRecDepth 65536 in
theorem w_hears : about1.hears theMethod below0 = true := by decide +kernel
set_option maxRecDepth 65536 in
theorem w_ripe : about1.ripe theMethod args0 below0 = true := by decide +kernel
theorem w_running : about1.status = .running := rfl
set_option maxRecDepth 65536 in
theorem w_room : about1.hasRoom e0.platform room_1 = true :=
  launch0.hasRoom_least _ room_1 (by decide +kernel) (by decide +kernel) (by decide +kernel) (by decide +kernel) (by decide +kernel) (by decide +kernel)
theorem allAtoms_all (ts : List Jvm.Cond) (a : Array Jvm.Value) (st : Jvm.State) : (allAtoms ts).before a st = ts.all (fun c => c.before a st) := by
  induction ts with
  | nil => rfl
  | cons c t ih =>
    show (Jvm.Cond.and c (allAtoms t)).before a st = _
    rw [Jvm.Cond.before_and, ih, List.all_cons]
def words1 : List Jvm.Cond := Jvm.Cond.code x code maxLocals ret :: tables_1
/-- a 'code' word, met by the world's own term for the bytes: nothing is compared byte by byte -/
theorem code_word {y : MethodName} {bytes : ByteArray} {mx : Nat} {rt : Option FieldType} {a : Array Value} {s : State} {m : MethodId} {meth : Method} {c : Code} (h1 : s.methodNamed? y = some m) (h2 : s.vm.method? m = some meth) (h3 : meth.code = some c) (h4 : c.code = bytes)
    (h5 : (c.maxLocals == mx && c.exceptionTable.isEmpty && decide (c.maxStack ≤ mostOperands) && decide (meth.sig.returnType = rt) && !meth.locks && decide (parseMethodDescriptor y.desc = some meth.sig)) = true) : (Jvm.Cond.code y bytes mx rt).before a s = true := by
  simp only [Bool.and_eq_true, beq_iff_eq, Bool.not_eq_true', decide_eq_true_eq] at h5
  obtain ⟨⟨⟨⟨⟨g1, g2⟩, g3⟩, g4⟩, g5⟩, g6⟩ := h5
  simp [Cond.before, Cond.holds, Cond.value, h1, h2, h3, h4, g1, g2, g3, g4, g5, g6]
def isCode : Jvm.Cond → Bool
  | .code _ _ _ _ => true
  | _ => false
theorem all_split {L : List Jvm.Cond} {P : Jvm.Cond → Bool} (h1 : L.all (fun c => isCode c || P c) = true) (h2 : ∀ c ∈ L.filter isCode, P c = true) : L.all P = true := by
  refine List.all_eq_true.mpr fun c hc => ?_
  have h := List.all_eq_true.mp h1 c hc
  rcases Bool.eq_false_or_eq_true (isCode c) with hi | hi
  · exact h2 c (List.mem_filter.mpr ⟨hc, hi⟩)
  · simpa [hi] using h
set_option maxRecDepth 65536 in
theorem w_c0 : (Jvm.Cond.code x code maxLocals ret).before args0 about1 = true := code_word (m := ⟨1, 1⟩) (meth := k1m1) (c := k1c1) (by decide +kernel) rfl rfl rfl (by decide +kernel)
set_option maxRecDepth 65536 in
theorem w_c1 : (Jvm.Cond.code ({ cls := "com/example/nestful/nestful/header/FieldText", name := "isValueChar", desc := "(C)Z" } : Jvm.MethodName) prog_17_method_5_code (1 : Nat) (Option.some Jvm.ClassFile.FieldType.boolean)).before args0 about1 = true := code_word (m := ⟨2, 1⟩) (meth := k2m1) (c := k2c1) (by decide +kernel) rfl rfl rfl (by decide +kernel)
def codes1 : List Jvm.Cond := [Jvm.Cond.code x code maxLocals ret, Jvm.Cond.code ({ cls := "com/example/nestful/nestful/header/FieldText", name := "isValueChar", desc := "(C)Z" } : Jvm.MethodName) prog_17_method_5_code (1 : Nat) (Option.some Jvm.ClassFile.FieldType.boolean)]
set_option maxRecDepth 65536 in
theorem codes_eq : words1.filter isCode = codes1 := rfl
theorem w_codes : ∀ c ∈ words1.filter isCode, c.before args0 about1 = true := by
  rw [codes_eq]
  intro c hc
  simp only [codes1, List.mem_cons, List.not_mem_nil, or_false] at hc
  rcases hc with rfl | rfl
  · exact w_c0
  · exact w_c1
set_option maxRecDepth 65536 in
theorem w_t1 : words1.all (fun c => isCode c || c.before args0 about1) = true := by decide +kernel
theorem w_tables : (allAtoms (Jvm.Cond.code x code maxLocals ret :: tables_1)).before args0 about1 = true := by
  rw [allAtoms_all]
  show words1.all (fun c => c.before args0 about1) = true
  refine all_split ?_ w_codes
  rw [w_t1]
set_option maxRecDepth 65536 in
theorem w_case : (Jvm.Cond.and given_1 narrow_1).before args0 about1 = true := by decide +kernel
theorem w_applies : (headSpec (Jvm.Cond.code x code maxLocals ret :: tables_1) room_1).applies x e0.platform about1 = true :=
  (Spec.applies_iff w_frames).mpr ⟨w_running, w_runnable, w_alone, w_named, w_hears, w_ripe, w_room, w_tables⟩
theorem atStart : AtStart classFile x code maxLocals ret World_1 tables_1 room_1 Calls_1 rest_1 Pre_1 launch0 p0 e0 about1 theMethod args0 below0 :=
  ⟨lists_1, trivial, launch0.admits_env _ _ _, launch0.least_env, fairChoices_fair.cas, fairChoices_fair.clock, w_frames, w_args, w_heap, w_applies, trivial, trivial, w_case⟩
end start1
theorem witness_1 : WitnessClaimed_1 := ⟨start1.p0, start1.e0, start1.about1, start1.theMethod, start1.args0, start1.below0, start1.atStart⟩
end Jvm.Pilot.@@N@@
