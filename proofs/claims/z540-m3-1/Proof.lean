import JvmDerived
import JvmDerived.Pilot.@@N@@Statement
import JvmDerived.Pilot.@@N@@Code
set_option linter.unusedVariables false
set_option linter.unusedSimpArgs false
@@BLOCK:NumsL.lean.txt@@
namespace Jvm.Pilot.@@N@@
open Jvm Jvm.ClassFile Sem Op Lib Jvm.Free Jvm.Stand Jvm.LawKit Jvm.RoadKit Bundle Jvm.Pilot.@@N@@.Jvm.D
section Own
variable {p : Program} {l : Launch} {e : Env} {R : Room} {s : State} {m : MethodId} {args : Array Value} {below : List Frame} {meth : Method} {c : Code} {Z : State} {a0 : Array Value} {own nm : String} {bs : ByteArray} {ml : Nat} {rt : Option FieldType} {n0 kc ks : Nat} {Q : Option Value → Heap → Prop} {F : Outcome → State → Prop} {T : State} {h : Heap} {k n : Nat} {pc pc' pc2 : Nat} {ls ls' : Array Slot} {st : List Value}
/-- all that a walk knows where it stands -/
def Here (p : Program) (l : Launch) (e : Env) (R : Room) (s : State) (m : MethodId) (args : Array Value) (below : List Frame) (meth : Method) (c : Code) (Z : State) (own nm : String) (bs : ByteArray) (ml : Nat) (rt : Option FieldType) (n0 : Nat) (T : State) (h : Heap) (k n : Nat) : Prop :=
  (p.tables.exec = Jvm.exec ∧ c.code = bs ∧ c.maxLocals = ml ∧ Z.Warmed39 s.vm ∧ s.vm.findClass own = some m.cls ∧ meth.name = nm ∧ meth.sig.returnType = rt ∧ meth.locks = false) ∧ n0 ≤ h.size ∧ T.heap = h ∧ ∃ locs, Stand p l e R s m args below meth c T locs k n ∧ Fr n0 locs
/-- from here the method returns, as Q says -/
def Run (p : Program) (e : Env) (below : List Frame) (F : Outcome → State → Prop) (T : State) (g : JFrame) : Prop :=
  ∃ s₂ o, Steps p.tables e below (T.setTop g) s₂ ∧ s₂.status = .running ∧ Ended s₂ below o ∧ F o s₂
/-- what a body's end owes -/
def Fnl (s : State) (n0 kc ks : Nat) (Q : Option Value → Heap → Prop) (o : Outcome) (s₂ : State) : Prop := ∃ v L, o = .returned v ∧ (Q v s₂.heap ∧ n0 ≤ s₂.heap.size ∧ Fr n0 L) ∧ FrameEnd s o s₂ L kc ks
/-- a body's contract -/
def Con (l : Launch) (Z : State) (y : MethodName) (bs : ByteArray) (ml : Nat) (rt : Option FieldType) (rm : Room) (as : Array Value) (h0 : Heap) (n0 kc ks : Nat) (Q : Option Value → Heap → Prop) : Prop :=
  ∀ ws, MetFree l y (head1 (Jvm.Cond.code y bs ml rt :: ws) rm) (fun a U => a = as ∧ Z.Warmed39 U.vm ∧ U.heap = h0) (fun _ _ _ _ _ => True) (fun _ U o U' => ∃ v L, o = .returned v ∧ (Q v U'.heap ∧ n0 ≤ U'.heap.size ∧ Fr n0 L) ∧ FrameEnd U o U' L kc ks)
theorem Run.of {T' : State} {g g' : JFrame} (q : ∀ t, Steps p.tables e below (T'.setTop g') t → Steps p.tables e below (T.setTop g) t) (r : Run p e below F T' g') : Run p e below F T g := by
  obtain ⟨s₂, o, w, r⟩ := r; exact ⟨s₂, o, q _ w, r⟩
theorem Con.of_body {y : MethodName} {rm : Room} {as : Array Value} (hp : plainName y.cls = true) (hef : ∀ m, entryFrame m as ml = mkF m 0 ls []) (Z0 : n0 ≤ h.size)
    (body : ∀ p e s m below meth c T, Here p l e rm s m as below meth c Z y.cls y.name bs ml rt n0 T h 0 0 → Run p e below (Fnl s n0 kc ks Q) T (mkF m 0 ls [])) : Con l Z y bs ml rt rm as h n0 kc ks Q := by
  intro ws
  refine MetFree.of_bodySF (plainFor_of_name hp) hisR ?_
  intro p e s m args below meth c s₁ Bd hml0 hP hK
  obtain ⟨rfl, hZ, hh⟩ := hP
  have e0 : s₁.heap = h := by rw [← hh, Bd.state]; rfl
  obtain ⟨s₂, o, q, r⟩ := body p e s m below meth c s₁ ⟨⟨Bd.exec, Bd.bytes, hml0, hZ, findClass_of_methodNamed Bd.named, (name_of_methodNamed Bd.named Bd.method).1, Bd.returns, Bd.notSynchronized⟩, Z0, e0, [], Stand.of_body Bd, Fr.nil n0⟩
  exact ⟨s₂, o, castTop (hef m) q, r⟩
theorem Here.sz (X : Here p l e R s m args below meth c Z own nm bs ml rt n0 T h k n) : n0 ≤ h.size := X.2.1
/-- the k-th word of the sheet -/
theorem wd (hw : ∀ d ∈ tables_1, d.before a0 Z = true) (i : Nat) {d : Jvm.Cond} (q : tables_1[i]? = some d) : d.before a0 Z = true := hw _ (List.mem_of_getElem? q)
def cnd : ClassFile.Cond → Int → Int → Prop
  | .eq, x, y => x = y
  | .ne, x, y => ¬ x = y
  | .lt, x, y => x < y
  | .ge, x, y => y ≤ x
  | .gt, x, y => y < x
  | .le, x, y => x ≤ y
theorem cnd_iff (cd : ClassFile.Cond) (x y : Int32) : if_icmp.holds cd x y = true ↔ cnd cd x.toInt y.toInt := by
  cases cd <;> simp [if_icmp.holds, cnd, Int32.lt_iff_toInt_lt, Int32.le_iff_toInt_le, ← Int32.toInt_inj]
theorem r_aloadN (X : Here p l e R s m args below meth c Z own nm bs ml rt n0 T h k n) {i : Fin 4} {a : Addr} (hd : decode bs pc = .ok (.aload_n i, 1)) (hl : ls[i.val]? = some (.val (.ref a))) (hp : pc + 1 = pc') (r : Run p e below F T (mkF m pc' ls (.ref a :: st))) : Run p e below F T (mkF m pc ls st) := by
  obtain ⟨⟨hx, hby, hml, hZ, hown, hnm, hret, hlk⟩, hs0, eT, locs, S, N⟩ := X
  subst hp
  exact Run.of (fun t q => XS.aloadN S.here hx rfl (hb hby hd) hl rfl q) r
theorem r_aload (X : Here p l e R s m args below meth c Z own nm bs ml rt n0 T h k n) {i : Nat} {a : Addr} (hd : decode bs pc = .ok (.aload i, 2)) (hl : ls[i]? = some (.val (.ref a))) (hp : pc + 2 = pc') (r : Run p e below F T (mkF m pc' ls (.ref a :: st))) : Run p e below F T (mkF m pc ls st) := by
  obtain ⟨⟨hx, hby, hml, hZ, hown, hnm, hret, hlk⟩, hs0, eT, locs, S, N⟩ := X
  subst hp
  exact Run.of (fun t q => XS.aload S.here hx rfl (hb hby hd) hl rfl q) r
theorem r_iloadN (X : Here p l e R s m args below meth c Z own nm bs ml rt n0 T h k n) {i : Fin 4} {v : Int32} (hd : decode bs pc = .ok (.iload_n i, 1)) (hl : ls[i.val]? = some (.val (.int v))) (hp : pc + 1 = pc') (r : Run p e below F T (mkF m pc' ls (.int v :: st))) : Run p e below F T (mkF m pc ls st) := by
  obtain ⟨⟨hx, hby, hml, hZ, hown, hnm, hret, hlk⟩, hs0, eT, locs, S, N⟩ := X
  subst hp
  exact Run.of (fun t q => XS.iloadN S.here hx rfl (hb hby hd) hl q) r
theorem r_iload (X : Here p l e R s m args below meth c Z own nm bs ml rt n0 T h k n) {i : Nat} {v : Int32} (hd : decode bs pc = .ok (.iload i, 2)) (hl : ls[i]? = some (.val (.int v))) (hp : pc + 2 = pc') (r : Run p e below F T (mkF m pc' ls (.int v :: st))) : Run p e below F T (mkF m pc ls st) := by
  obtain ⟨⟨hx, hby, hml, hZ, hown, hnm, hret, hlk⟩, hs0, eT, locs, S, N⟩ := X
  subst hp
  exact Run.of (fun t q => XS.iload S.here hx rfl (hb hby hd) hl q) r
theorem r_lloadN (X : Here p l e R s m args below meth c Z own nm bs ml rt n0 T h k n) {i : Fin 4} {v : Int64} (hd : decode bs pc = .ok (.lload_n i, 1)) (hl : ls[i.val]? = some (.val (.long v))) (hp : pc + 1 = pc') (r : Run p e below F T (mkF m pc' ls (.long v :: st))) : Run p e below F T (mkF m pc ls st) := by
  obtain ⟨⟨hx, hby, hml, hZ, hown, hnm, hret, hlk⟩, hs0, eT, locs, S, N⟩ := X
  subst hp
  exact Run.of (fun t q => XT.lloadN S.here hx rfl (hb hby hd) hl q) r
theorem r_lload (X : Here p l e R s m args below meth c Z own nm bs ml rt n0 T h k n) {i : Nat} {v : Int64} (hd : decode bs pc = .ok (.lload i, 2)) (hl : ls[i]? = some (.val (.long v))) (hp : pc + 2 = pc') (r : Run p e below F T (mkF m pc' ls (.long v :: st))) : Run p e below F T (mkF m pc ls st) := by
  obtain ⟨⟨hx, hby, hml, hZ, hown, hnm, hret, hlk⟩, hs0, eT, locs, S, N⟩ := X
  subst hp
  exact Run.of (fun t q => XT.lload S.here hx rfl (hb hby hd) hl q) r
theorem r_istoreN (X : Here p l e R s m args below meth c Z own nm bs ml rt n0 T h k n) {i : Fin 4} {v : Int32} (hd : decode bs pc = .ok (.istore_n i, 1)) (hl : storeLocals ls i.val (.int v) = some ls') (hp : pc + 1 = pc') (r : Run p e below F T (mkF m pc' ls' st)) : Run p e below F T (mkF m pc ls (.int v :: st)) := by
  obtain ⟨⟨hx, hby, hml, hZ, hown, hnm, hret, hlk⟩, hs0, eT, locs, S, N⟩ := X
  subst hp
  exact Run.of (fun t q => XS.istoreN S.here hx rfl (hb hby hd) rfl hl q) r
theorem r_istore (X : Here p l e R s m args below meth c Z own nm bs ml rt n0 T h k n) {i : Nat} {v : Int32} (hd : decode bs pc = .ok (.istore i, 2)) (hl : storeLocals ls i (.int v) = some ls') (hp : pc + 2 = pc') (r : Run p e below F T (mkF m pc' ls' st)) : Run p e below F T (mkF m pc ls (.int v :: st)) := by
  obtain ⟨⟨hx, hby, hml, hZ, hown, hnm, hret, hlk⟩, hs0, eT, locs, S, N⟩ := X
  subst hp
  exact Run.of (fun t q => XS.istore S.here hx rfl (hb hby hd) rfl hl q) r
theorem r_lstoreN (X : Here p l e R s m args below meth c Z own nm bs ml rt n0 T h k n) {i : Fin 4} {v : Int64} (hd : decode bs pc = .ok (.lstore_n i, 1)) (hl : storeLocals ls i.val (.long v) = some ls') (hp : pc + 1 = pc') (r : Run p e below F T (mkF m pc' ls' st)) : Run p e below F T (mkF m pc ls (.long v :: st)) := by
  obtain ⟨⟨hx, hby, hml, hZ, hown, hnm, hret, hlk⟩, hs0, eT, locs, S, N⟩ := X
  subst hp
  exact Run.of (fun t q => XT.lstoreN S.here hx rfl (hb hby hd) rfl hl q) r
theorem r_lstore (X : Here p l e R s m args below meth c Z own nm bs ml rt n0 T h k n) {i : Nat} {v : Int64} (hd : decode bs pc = .ok (.lstore i, 2)) (hl : storeLocals ls i (.long v) = some ls') (hp : pc + 2 = pc') (r : Run p e below F T (mkF m pc' ls' st)) : Run p e below F T (mkF m pc ls (.long v :: st)) := by
  obtain ⟨⟨hx, hby, hml, hZ, hown, hnm, hret, hlk⟩, hs0, eT, locs, S, N⟩ := X
  subst hp
  exact Run.of (fun t q => XT.lstore S.here hx rfl (hb hby hd) rfl hl q) r
theorem r_astoreN (X : Here p l e R s m args below meth c Z own nm bs ml rt n0 T h k n) {i : Fin 4} {v : Addr} (hd : decode bs pc = .ok (.astore_n i, 1)) (hl : storeLocals ls i.val (.ref v) = some ls') (hp : pc + 1 = pc') (r : Run p e below F T (mkF m pc' ls' st)) : Run p e below F T (mkF m pc ls (.ref v :: st)) := by
  obtain ⟨⟨hx, hby, hml, hZ, hown, hnm, hret, hlk⟩, hs0, eT, locs, S, N⟩ := X
  subst hp
  exact Run.of (fun t q => XS.astoreN S.here hx rfl (hb hby hd) rfl rfl hl q) r
theorem r_astore (X : Here p l e R s m args below meth c Z own nm bs ml rt n0 T h k n) {i : Nat} {v : Addr} (hd : decode bs pc = .ok (.astore i, 2)) (hl : storeLocals ls i (.ref v) = some ls') (hp : pc + 2 = pc') (r : Run p e below F T (mkF m pc' ls' st)) : Run p e below F T (mkF m pc ls (.ref v :: st)) := by
  obtain ⟨⟨hx, hby, hml, hZ, hown, hnm, hret, hlk⟩, hs0, eT, locs, S, N⟩ := X
  subst hp
  exact Run.of (fun t q => XS.astore S.here hx rfl (hb hby hd) rfl rfl hl q) r
theorem r_iconst (X : Here p l e R s m args below meth c Z own nm bs ml rt n0 T h k n) {i : Int} {v : Int32} (hd : decode bs pc = .ok (.iconst i, 1)) (hv : Int32.ofInt i = v) (hp : pc + 1 = pc') (r : Run p e below F T (mkF m pc' ls (.int v :: st))) : Run p e below F T (mkF m pc ls st) := by
  obtain ⟨⟨hx, hby, hml, hZ, hown, hnm, hret, hlk⟩, hs0, eT, locs, S, N⟩ := X
  subst hp
  exact Run.of (fun t q => XS.iconst S.here hx rfl (hb hby hd) (by rw [hv]; exact q)) r
theorem r_bipush (X : Here p l e R s m args below meth c Z own nm bs ml rt n0 T h k n) {i : Int} {v : Int32} (hd : decode bs pc = .ok (.bipush i, 2)) (hv : (Int8.ofInt i).toInt32 = v) (hp : pc + 2 = pc') (r : Run p e below F T (mkF m pc' ls (.int v :: st))) : Run p e below F T (mkF m pc ls st) := by
  obtain ⟨⟨hx, hby, hml, hZ, hown, hnm, hret, hlk⟩, hs0, eT, locs, S, N⟩ := X
  subst hp
  exact Run.of (fun t q => XS.bipush S.here hx rfl (hb hby hd) (by rw [hv]; exact q)) r
theorem r_sipush (X : Here p l e R s m args below meth c Z own nm bs ml rt n0 T h k n) {i : Int} {v : Int32} (hd : decode bs pc = .ok (.sipush i, 3)) (hv : (Int16.ofInt i).toInt32 = v) (hp : pc + 3 = pc') (r : Run p e below F T (mkF m pc' ls (.int v :: st))) : Run p e below F T (mkF m pc ls st) := by
  obtain ⟨⟨hx, hby, hml, hZ, hown, hnm, hret, hlk⟩, hs0, eT, locs, S, N⟩ := X
  subst hp
  exact Run.of (fun t q => XS.sipush S.here hx rfl (hb hby hd) (by rw [hv]; exact q)) r
theorem r_lconst (X : Here p l e R s m args below meth c Z own nm bs ml rt n0 T h k n) {i : Fin 2} {v : Int64} (hd : decode bs pc = .ok (.lconst i, 1)) (hv : Int64.ofNat i = v) (hp : pc + 1 = pc') (r : Run p e below F T (mkF m pc' ls (.long v :: st))) : Run p e below F T (mkF m pc ls st) := by
  obtain ⟨⟨hx, hby, hml, hZ, hown, hnm, hret, hlk⟩, hs0, eT, locs, S, N⟩ := X
  subst hp
  exact Run.of (fun t q => XT.lconst S.here hx rfl (hb hby hd) (by rw [hv]; exact q)) r
theorem r_ldcI (X : Here p l e R s m args below meth c Z own nm bs ml rt n0 T h k n) {i : Nat} {v : Int32} (hd : decode bs pc = .ok (.ldc i, 2)) (w : (Jvm.Cond.constant own i v).before a0 Z = true) (hp : pc + 2 = pc') (r : Run p e below F T (mkF m pc' ls (.int v :: st))) : Run p e below F T (mkF m pc ls st) := by
  obtain ⟨⟨hx, hby, hml, hZ, hown, hnm, hret, hlk⟩, hs0, eT, locs, S, N⟩ := X
  subst hp
  exact Run.of (fun t q => S.ldcI hx hown (mvT hZ w) rfl (hb hby hd) q) r
theorem r_ldc2J (X : Here p l e R s m args below meth c Z own nm bs ml rt n0 T h k n) {i : Nat} {v : Int64} (hd : decode bs pc = .ok (.ldc2_w i, 3)) (w : (Jvm.Cond.constantLong own i v).before a0 Z = true) (hp : pc + 3 = pc') (r : Run p e below F T (mkF m pc' ls (.long v :: st))) : Run p e below F T (mkF m pc ls st) := by
  obtain ⟨⟨hx, hby, hml, hZ, hown, hnm, hret, hlk⟩, hs0, eT, locs, S, N⟩ := X
  subst hp
  exact Run.of (fun t q => S.ldc2J hx hown (mvT hZ w) rfl (hb hby hd) q) r
theorem r_iadd (X : Here p l e R s m args below meth c Z own nm bs ml rt n0 T h k n) {x y z : Int32} (hd : decode bs pc = .ok (.iadd, 1)) (hv : x + y = z) (hp : pc + 1 = pc') (r : Run p e below F T (mkF m pc' ls (.int z :: st))) : Run p e below F T (mkF m pc ls (.int y :: .int x :: st)) := by
  obtain ⟨⟨hx, hby, hml, hZ, hown, hnm, hret, hlk⟩, hs0, eT, locs, S, N⟩ := X
  subst hp
  exact Run.of (fun t q => XS.iadd S.here hx rfl (hb hby hd) rfl (by rw [hv]; exact q)) r
theorem r_isub (X : Here p l e R s m args below meth c Z own nm bs ml rt n0 T h k n) {x y z : Int32} (hd : decode bs pc = .ok (.isub, 1)) (hv : x - y = z) (hp : pc + 1 = pc') (r : Run p e below F T (mkF m pc' ls (.int z :: st))) : Run p e below F T (mkF m pc ls (.int y :: .int x :: st)) := by
  obtain ⟨⟨hx, hby, hml, hZ, hown, hnm, hret, hlk⟩, hs0, eT, locs, S, N⟩ := X
  subst hp
  exact Run.of (fun t q => XS.isub S.here hx rfl (hb hby hd) rfl (by rw [hv]; exact q)) r
theorem r_imul (X : Here p l e R s m args below meth c Z own nm bs ml rt n0 T h k n) {x y z : Int32} (hd : decode bs pc = .ok (.imul, 1)) (hv : x * y = z) (hp : pc + 1 = pc') (r : Run p e below F T (mkF m pc' ls (.int z :: st))) : Run p e below F T (mkF m pc ls (.int y :: .int x :: st)) := by
  obtain ⟨⟨hx, hby, hml, hZ, hown, hnm, hret, hlk⟩, hs0, eT, locs, S, N⟩ := X
  subst hp
  exact Run.of (fun t q => XS.imul S.here hx rfl (hb hby hd) rfl (by rw [hv]; exact q)) r
theorem r_iand (X : Here p l e R s m args below meth c Z own nm bs ml rt n0 T h k n) {x y z : Int32} (hd : decode bs pc = .ok (.iand, 1)) (hv : x &&& y = z) (hp : pc + 1 = pc') (r : Run p e below F T (mkF m pc' ls (.int z :: st))) : Run p e below F T (mkF m pc ls (.int y :: .int x :: st)) := by
  obtain ⟨⟨hx, hby, hml, hZ, hown, hnm, hret, hlk⟩, hs0, eT, locs, S, N⟩ := X
  subst hp
  exact Run.of (fun t q => XS.iand S.here hx rfl (hb hby hd) rfl (by rw [hv]; exact q)) r
theorem r_ior (X : Here p l e R s m args below meth c Z own nm bs ml rt n0 T h k n) {x y z : Int32} (hd : decode bs pc = .ok (.ior, 1)) (hv : x ||| y = z) (hp : pc + 1 = pc') (r : Run p e below F T (mkF m pc' ls (.int z :: st))) : Run p e below F T (mkF m pc ls (.int y :: .int x :: st)) := by
  obtain ⟨⟨hx, hby, hml, hZ, hown, hnm, hret, hlk⟩, hs0, eT, locs, S, N⟩ := X
  subst hp
  exact Run.of (fun t q => XT.ior S.here hx rfl (hb hby hd) rfl (by rw [hv]; exact q)) r
theorem r_ixor (X : Here p l e R s m args below meth c Z own nm bs ml rt n0 T h k n) {x y z : Int32} (hd : decode bs pc = .ok (.ixor, 1)) (hv : x ^^^ y = z) (hp : pc + 1 = pc') (r : Run p e below F T (mkF m pc' ls (.int z :: st))) : Run p e below F T (mkF m pc ls (.int y :: .int x :: st)) := by
  obtain ⟨⟨hx, hby, hml, hZ, hown, hnm, hret, hlk⟩, hs0, eT, locs, S, N⟩ := X
  subst hp
  exact Run.of (fun t q => XT.ixor S.here hx rfl (hb hby hd) rfl (by rw [hv]; exact q)) r
theorem r_ishl (X : Here p l e R s m args below meth c Z own nm bs ml rt n0 T h k n) {x y z : Int32} (hd : decode bs pc = .ok (.ishl, 1)) (hv : x <<< (y &&& 31) = z) (hp : pc + 1 = pc') (r : Run p e below F T (mkF m pc' ls (.int z :: st))) : Run p e below F T (mkF m pc ls (.int y :: .int x :: st)) := by
  obtain ⟨⟨hx, hby, hml, hZ, hown, hnm, hret, hlk⟩, hs0, eT, locs, S, N⟩ := X
  subst hp
  exact Run.of (fun t q => XT.ishl S.here hx rfl (hb hby hd) rfl (by rw [hv]; exact q)) r
theorem r_ishr (X : Here p l e R s m args below meth c Z own nm bs ml rt n0 T h k n) {x y z : Int32} (hd : decode bs pc = .ok (.ishr, 1)) (hv : x >>> (y &&& 31) = z) (hp : pc + 1 = pc') (r : Run p e below F T (mkF m pc' ls (.int z :: st))) : Run p e below F T (mkF m pc ls (.int y :: .int x :: st)) := by
  obtain ⟨⟨hx, hby, hml, hZ, hown, hnm, hret, hlk⟩, hs0, eT, locs, S, N⟩ := X
  subst hp
  exact Run.of (fun t q => XT.ishr S.here hx rfl (hb hby hd) rfl (by rw [hv]; exact q)) r
theorem r_iushr (X : Here p l e R s m args below meth c Z own nm bs ml rt n0 T h k n) {x y z : Int32} (hd : decode bs pc = .ok (.iushr, 1)) (hv : XT.ushr x y = z) (hp : pc + 1 = pc') (r : Run p e below F T (mkF m pc' ls (.int z :: st))) : Run p e below F T (mkF m pc ls (.int y :: .int x :: st)) := by
  obtain ⟨⟨hx, hby, hml, hZ, hown, hnm, hret, hlk⟩, hs0, eT, locs, S, N⟩ := X
  subst hp
  exact Run.of (fun t q => XT.iushr S.here hx rfl (hb hby hd) rfl (by rw [hv]; exact q)) r
theorem r_irem (X : Here p l e R s m args below meth c Z own nm bs ml rt n0 T h k n) {x y z : Int32} (hd : decode bs pc = .ok (.irem, 1)) (hy : y ≠ 0) (hv : x % y = z) (hp : pc + 1 = pc') (r : Run p e below F T (mkF m pc' ls (.int z :: st))) : Run p e below F T (mkF m pc ls (.int y :: .int x :: st)) := by
  obtain ⟨⟨hx, hby, hml, hZ, hown, hnm, hret, hlk⟩, hs0, eT, locs, S, N⟩ := X
  subst hp
  exact Run.of (fun t q => iremM S hx rfl (hb hby hd) rfl hy (by rw [hv]; exact q)) r
theorem r_idiv (X : Here p l e R s m args below meth c Z own nm bs ml rt n0 T h k n) {x y z : Int32} (hd : decode bs pc = .ok (.idiv, 1)) (hy : y ≠ 0) (hv : x / y = z) (hp : pc + 1 = pc') (r : Run p e below F T (mkF m pc' ls (.int z :: st))) : Run p e below F T (mkF m pc ls (.int y :: .int x :: st)) := by
  obtain ⟨⟨hx, hby, hml, hZ, hown, hnm, hret, hlk⟩, hs0, eT, locs, S, N⟩ := X
  subst hp
  exact Run.of (fun t q => XS.idiv S.here hx rfl (hb hby hd) rfl hy (by rw [hv]; exact q)) r
theorem r_ladd (X : Here p l e R s m args below meth c Z own nm bs ml rt n0 T h k n) {x y z : Int64} (hd : decode bs pc = .ok (.ladd, 1)) (hv : x + y = z) (hp : pc + 1 = pc') (r : Run p e below F T (mkF m pc' ls (.long z :: st))) : Run p e below F T (mkF m pc ls (.long y :: .long x :: st)) := by
  obtain ⟨⟨hx, hby, hml, hZ, hown, hnm, hret, hlk⟩, hs0, eT, locs, S, N⟩ := X
  subst hp
  exact Run.of (fun t q => XT.ladd S.here hx rfl (hb hby hd) rfl (by rw [hv]; exact q)) r
theorem r_lsub (X : Here p l e R s m args below meth c Z own nm bs ml rt n0 T h k n) {x y z : Int64} (hd : decode bs pc = .ok (.lsub, 1)) (hv : x - y = z) (hp : pc + 1 = pc') (r : Run p e below F T (mkF m pc' ls (.long z :: st))) : Run p e below F T (mkF m pc ls (.long y :: .long x :: st)) := by
  obtain ⟨⟨hx, hby, hml, hZ, hown, hnm, hret, hlk⟩, hs0, eT, locs, S, N⟩ := X
  subst hp
  exact Run.of (fun t q => XT.lsub S.here hx rfl (hb hby hd) rfl (by rw [hv]; exact q)) r
theorem r_lmul (X : Here p l e R s m args below meth c Z own nm bs ml rt n0 T h k n) {x y z : Int64} (hd : decode bs pc = .ok (.lmul, 1)) (hv : x * y = z) (hp : pc + 1 = pc') (r : Run p e below F T (mkF m pc' ls (.long z :: st))) : Run p e below F T (mkF m pc ls (.long y :: .long x :: st)) := by
  obtain ⟨⟨hx, hby, hml, hZ, hown, hnm, hret, hlk⟩, hs0, eT, locs, S, N⟩ := X
  subst hp
  exact Run.of (fun t q => XT.lmul S.here hx rfl (hb hby hd) rfl (by rw [hv]; exact q)) r
theorem r_land (X : Here p l e R s m args below meth c Z own nm bs ml rt n0 T h k n) {x y z : Int64} (hd : decode bs pc = .ok (.land, 1)) (hv : x &&& y = z) (hp : pc + 1 = pc') (r : Run p e below F T (mkF m pc' ls (.long z :: st))) : Run p e below F T (mkF m pc ls (.long y :: .long x :: st)) := by
  obtain ⟨⟨hx, hby, hml, hZ, hown, hnm, hret, hlk⟩, hs0, eT, locs, S, N⟩ := X
  subst hp
  exact Run.of (fun t q => XT.land S.here hx rfl (hb hby hd) rfl (by rw [hv]; exact q)) r
theorem r_lor (X : Here p l e R s m args below meth c Z own nm bs ml rt n0 T h k n) {x y z : Int64} (hd : decode bs pc = .ok (.lor, 1)) (hv : x ||| y = z) (hp : pc + 1 = pc') (r : Run p e below F T (mkF m pc' ls (.long z :: st))) : Run p e below F T (mkF m pc ls (.long y :: .long x :: st)) := by
  obtain ⟨⟨hx, hby, hml, hZ, hown, hnm, hret, hlk⟩, hs0, eT, locs, S, N⟩ := X
  subst hp
  exact Run.of (fun t q => XT.lor S.here hx rfl (hb hby hd) rfl (by rw [hv]; exact q)) r
theorem r_lxor (X : Here p l e R s m args below meth c Z own nm bs ml rt n0 T h k n) {x y z : Int64} (hd : decode bs pc = .ok (.lxor, 1)) (hv : x ^^^ y = z) (hp : pc + 1 = pc') (r : Run p e below F T (mkF m pc' ls (.long z :: st))) : Run p e below F T (mkF m pc ls (.long y :: .long x :: st)) := by
  obtain ⟨⟨hx, hby, hml, hZ, hown, hnm, hret, hlk⟩, hs0, eT, locs, S, N⟩ := X
  subst hp
  exact Run.of (fun t q => XT.lxor S.here hx rfl (hb hby hd) rfl (by rw [hv]; exact q)) r
theorem r_ldiv (X : Here p l e R s m args below meth c Z own nm bs ml rt n0 T h k n) {x y z : Int64} (hd : decode bs pc = .ok (.ldiv, 1)) (hy : y ≠ 0) (hv : x / y = z) (hp : pc + 1 = pc') (r : Run p e below F T (mkF m pc' ls (.long z :: st))) : Run p e below F T (mkF m pc ls (.long y :: .long x :: st)) := by
  obtain ⟨⟨hx, hby, hml, hZ, hown, hnm, hret, hlk⟩, hs0, eT, locs, S, N⟩ := X
  subst hp
  exact Run.of (fun t q => XT.ldiv S.here hx rfl (hb hby hd) rfl hy (by rw [hv]; exact q)) r
theorem r_lrem (X : Here p l e R s m args below meth c Z own nm bs ml rt n0 T h k n) {x y z : Int64} (hd : decode bs pc = .ok (.lrem, 1)) (hy : y ≠ 0) (hv : x - (x / y) * y = z) (hp : pc + 1 = pc') (r : Run p e below F T (mkF m pc' ls (.long z :: st))) : Run p e below F T (mkF m pc ls (.long y :: .long x :: st)) := by
  obtain ⟨⟨hx, hby, hml, hZ, hown, hnm, hret, hlk⟩, hs0, eT, locs, S, N⟩ := X
  subst hp
  exact Run.of (fun t q => XT.lrem S.here hx rfl (hb hby hd) rfl hy (by rw [hv]; exact q)) r
theorem r_lshl (X : Here p l e R s m args below meth c Z own nm bs ml rt n0 T h k n) {x z : Int64} {y : Int32} (hd : decode bs pc = .ok (.lshl, 1)) (hv : x <<< (y.toInt64 &&& 63) = z) (hp : pc + 1 = pc') (r : Run p e below F T (mkF m pc' ls (.long z :: st))) : Run p e below F T (mkF m pc ls (.int y :: .long x :: st)) := by
  obtain ⟨⟨hx, hby, hml, hZ, hown, hnm, hret, hlk⟩, hs0, eT, locs, S, N⟩ := X
  subst hp
  exact Run.of (fun t q => XT.lshl S.here hx rfl (hb hby hd) rfl (by rw [hv]; exact q)) r
theorem r_lshr (X : Here p l e R s m args below meth c Z own nm bs ml rt n0 T h k n) {x z : Int64} {y : Int32} (hd : decode bs pc = .ok (.lshr, 1)) (hv : x >>> (y.toInt64 &&& 63) = z) (hp : pc + 1 = pc') (r : Run p e below F T (mkF m pc' ls (.long z :: st))) : Run p e below F T (mkF m pc ls (.int y :: .long x :: st)) := by
  obtain ⟨⟨hx, hby, hml, hZ, hown, hnm, hret, hlk⟩, hs0, eT, locs, S, N⟩ := X
  subst hp
  exact Run.of (fun t q => XT.lshr S.here hx rfl (hb hby hd) rfl (by rw [hv]; exact q)) r
theorem r_lushr (X : Here p l e R s m args below meth c Z own nm bs ml rt n0 T h k n) {x z : Int64} {y : Int32} (hd : decode bs pc = .ok (.lushr, 1)) (hv : XT.ushrL x y = z) (hp : pc + 1 = pc') (r : Run p e below F T (mkF m pc' ls (.long z :: st))) : Run p e below F T (mkF m pc ls (.int y :: .long x :: st)) := by
  obtain ⟨⟨hx, hby, hml, hZ, hown, hnm, hret, hlk⟩, hs0, eT, locs, S, N⟩ := X
  subst hp
  exact Run.of (fun t q => XT.lushr S.here hx rfl (hb hby hd) rfl (by rw [hv]; exact q)) r
theorem r_i2b (X : Here p l e R s m args below meth c Z own nm bs ml rt n0 T h k n) {x z : Int32} (hd : decode bs pc = .ok (.i2b, 1)) (hv : x.toInt8.toInt32 = z) (hp : pc + 1 = pc') (r : Run p e below F T (mkF m pc' ls (.int z :: st))) : Run p e below F T (mkF m pc ls (.int x :: st)) := by
  obtain ⟨⟨hx, hby, hml, hZ, hown, hnm, hret, hlk⟩, hs0, eT, locs, S, N⟩ := X
  subst hp
  exact Run.of (fun t q => XT.i2b S.here hx rfl (hb hby hd) rfl (by rw [hv]; exact q)) r
theorem r_i2c (X : Here p l e R s m args below meth c Z own nm bs ml rt n0 T h k n) {x z : Int32} (hd : decode bs pc = .ok (.i2c, 1)) (hv : x.toUInt32.toUInt16.toUInt32.toInt32 = z) (hp : pc + 1 = pc') (r : Run p e below F T (mkF m pc' ls (.int z :: st))) : Run p e below F T (mkF m pc ls (.int x :: st)) := by
  obtain ⟨⟨hx, hby, hml, hZ, hown, hnm, hret, hlk⟩, hs0, eT, locs, S, N⟩ := X
  subst hp
  exact Run.of (fun t q => XT.i2c S.here hx rfl (hb hby hd) rfl (by rw [hv]; exact q)) r
theorem r_i2s (X : Here p l e R s m args below meth c Z own nm bs ml rt n0 T h k n) {x z : Int32} (hd : decode bs pc = .ok (.i2s, 1)) (hv : x.toInt16.toInt32 = z) (hp : pc + 1 = pc') (r : Run p e below F T (mkF m pc' ls (.int z :: st))) : Run p e below F T (mkF m pc ls (.int x :: st)) := by
  obtain ⟨⟨hx, hby, hml, hZ, hown, hnm, hret, hlk⟩, hs0, eT, locs, S, N⟩ := X
  subst hp
  exact Run.of (fun t q => XT.i2s S.here hx rfl (hb hby hd) rfl (by rw [hv]; exact q)) r
theorem r_i2l (X : Here p l e R s m args below meth c Z own nm bs ml rt n0 T h k n) {x : Int32} {z : Int64} (hd : decode bs pc = .ok (.i2l, 1)) (hv : x.toInt64 = z) (hp : pc + 1 = pc') (r : Run p e below F T (mkF m pc' ls (.long z :: st))) : Run p e below F T (mkF m pc ls (.int x :: st)) := by
  obtain ⟨⟨hx, hby, hml, hZ, hown, hnm, hret, hlk⟩, hs0, eT, locs, S, N⟩ := X
  subst hp
  exact Run.of (fun t q => XT.i2l S.here hx rfl (hb hby hd) rfl (by rw [hv]; exact q)) r
theorem r_l2i (X : Here p l e R s m args below meth c Z own nm bs ml rt n0 T h k n) {x : Int64} {z : Int32} (hd : decode bs pc = .ok (.l2i, 1)) (hv : x.toInt32 = z) (hp : pc + 1 = pc') (r : Run p e below F T (mkF m pc' ls (.int z :: st))) : Run p e below F T (mkF m pc ls (.long x :: st)) := by
  obtain ⟨⟨hx, hby, hml, hZ, hown, hnm, hret, hlk⟩, hs0, eT, locs, S, N⟩ := X
  subst hp
  exact Run.of (fun t q => XT.l2i S.here hx rfl (hb hby hd) rfl (by rw [hv]; exact q)) r
theorem r_lcmp (X : Here p l e R s m args below meth c Z own nm bs ml rt n0 T h k n) {x y : Int64} {z : Int32} (hd : decode bs pc = .ok (.lcmp, 1)) (hv : XT.cmpL x y = z) (hp : pc + 1 = pc') (r : Run p e below F T (mkF m pc' ls (.int z :: st))) : Run p e below F T (mkF m pc ls (.long y :: .long x :: st)) := by
  obtain ⟨⟨hx, hby, hml, hZ, hown, hnm, hret, hlk⟩, hs0, eT, locs, S, N⟩ := X
  subst hp
  exact Run.of (fun t q => XT.lcmp S.here hx rfl (hb hby hd) rfl (by rw [hv]; exact q)) r
theorem r_dup (X : Here p l e R s m args below meth c Z own nm bs ml rt n0 T h k n) {x : Value} (hd : decode bs pc = .ok (.dup, 1)) (hc : x.category = 1) (hp : pc + 1 = pc') (r : Run p e below F T (mkF m pc' ls (x :: x :: st))) : Run p e below F T (mkF m pc ls (x :: st)) := by
  obtain ⟨⟨hx, hby, hml, hZ, hown, hnm, hret, hlk⟩, hs0, eT, locs, S, N⟩ := X
  subst hp
  exact Run.of (fun t q => XS.dup S.here hx rfl (hb hby hd) rfl hc q) r
theorem r_dupX1 (X : Here p l e R s m args below meth c Z own nm bs ml rt n0 T h k n) {x y : Value} (hd : decode bs pc = .ok (.dup_x1, 1)) (hc : x.category = 1) (hc' : y.category = 1) (hp : pc + 1 = pc') (r : Run p e below F T (mkF m pc' ls (x :: y :: x :: st))) : Run p e below F T (mkF m pc ls (x :: y :: st)) := by
  obtain ⟨⟨hx, hby, hml, hZ, hown, hnm, hret, hlk⟩, hs0, eT, locs, S, N⟩ := X
  subst hp
  exact Run.of (fun t q => XT.dupX1 S.here hx rfl (hb hby hd) rfl hc hc' q) r
theorem r_pop (X : Here p l e R s m args below meth c Z own nm bs ml rt n0 T h k n) {x : Value} (hd : decode bs pc = .ok (.pop, 1)) (hc : x.category = 1) (hp : pc + 1 = pc') (r : Run p e below F T (mkF m pc' ls st)) : Run p e below F T (mkF m pc ls (x :: st)) := by
  obtain ⟨⟨hx, hby, hml, hZ, hown, hnm, hret, hlk⟩, hs0, eT, locs, S, N⟩ := X
  subst hp
  exact Run.of (fun t q => XT.pop S.here hx rfl (hb hby hd) rfl hc q) r
theorem r_iinc (X : Here p l e R s m args below meth c Z own nm bs ml rt n0 T h k n) {i : Nat} {d : Int} {x z : Int32} (hd : decode bs pc = .ok (.iinc i d, 3)) (hl : ls[i]? = some (.val (.int x))) (hv : x + Int32.ofInt d = z) (hl' : storeLocals ls i (.int z) = some ls') (hp : pc + 3 = pc') (r : Run p e below F T (mkF m pc' ls' st)) : Run p e below F T (mkF m pc ls st) := by
  obtain ⟨⟨hx, hby, hml, hZ, hown, hnm, hret, hlk⟩, hs0, eT, locs, S, N⟩ := X
  subst hp
  exact Run.of (fun t q => XS.iinc S.here hx rfl (hb hby hd) hl (by rw [hv]; exact hl') q) r
theorem r_goto (X : Here p l e R s m args below meth c Z own nm bs ml rt n0 T h k n) {o : Int} (hd : decode bs pc = .ok (.goto o, 3)) (ho : 0 ≤ (pc : Int) + o) (hp : ((pc : Int) + o).toNat = pc') (r : Run p e below F T (mkF m pc' ls st)) : Run p e below F T (mkF m pc ls st) := by
  obtain ⟨⟨hx, hby, hml, hZ, hown, hnm, hret, hlk⟩, hs0, eT, locs, S, N⟩ := X
  exact Run.of (fun t q => XS.goto S.here hx rfl rfl (hb hby hd) ho hp q) r
theorem r_icmp (X : Here p l e R s m args below meth c Z own nm bs ml rt n0 T h k n) {cd : ClassFile.Cond} {o : Int} (hd : decode bs pc = .ok (.if_icmp cd o, 3)) (ho : 0 ≤ (pc : Int) + o) (hp : ((pc : Int) + o).toNat = pc') (hp2 : pc + 3 = pc2) {x y : Int32} {a b : Int} (ha : x.toInt = a) (hb' : y.toInt = b) (yes : cnd cd a b → Run p e below F T (mkF m pc' ls st)) (no : ¬ cnd cd a b → Run p e below F T (mkF m pc2 ls st)) : Run p e below F T (mkF m pc ls (.int y :: .int x :: st)) := by
  obtain ⟨⟨hx, hby, hml, hZ, hown, hnm, hret, hlk⟩, hs0, eT, locs, S, N⟩ := X
  subst ha hb' hp2
  by_cases w : cnd cd x.toInt (y : Int32).toInt
  · exact Run.of (fun t q => XS.icmpYes S.here hx rfl rfl (hb hby hd) rfl (((cnd_iff cd x y).mpr w)) ho hp q) (yes w)
  · exact Run.of (fun t q => XS.icmpNo S.here hx rfl (hb hby hd) rfl ((Bool.eq_false_iff.mpr fun z => w ((cnd_iff cd x y).mp z))) q) (no w)
theorem r_icmpY (X : Here p l e R s m args below meth c Z own nm bs ml rt n0 T h k n) {cd : ClassFile.Cond} {o : Int} (hd : decode bs pc = .ok (.if_icmp cd o, 3)) (ho : 0 ≤ (pc : Int) + o) (hp : ((pc : Int) + o).toNat = pc') {x y : Int32} {a b : Int} (ha : x.toInt = a) (hb' : y.toInt = b) (w : cnd cd a b) (r : Run p e below F T (mkF m pc' ls st)) : Run p e below F T (mkF m pc ls (.int y :: .int x :: st)) :=
  r_icmp X hd ho hp rfl ha hb' (fun _ => r) (fun z => absurd w z)
theorem r_icmpN (X : Here p l e R s m args below meth c Z own nm bs ml rt n0 T h k n) {cd : ClassFile.Cond} {o : Int} (hd : decode bs pc = .ok (.if_icmp cd o, 3)) (ho : 0 ≤ (pc : Int) + o) (hp2 : pc + 3 = pc2) {x y : Int32} {a b : Int} (ha : x.toInt = a) (hb' : y.toInt = b) (w : ¬ cnd cd a b) (r : Run p e below F T (mkF m pc2 ls st)) : Run p e below F T (mkF m pc ls (.int y :: .int x :: st)) :=
  r_icmp X hd ho rfl hp2 ha hb' (fun z => absurd z w) (fun _ => r)
theorem r_if (X : Here p l e R s m args below meth c Z own nm bs ml rt n0 T h k n) {cd : ClassFile.Cond} {o : Int} (hd : decode bs pc = .ok (.ifCond cd o, 3)) (ho : 0 ≤ (pc : Int) + o) (hp : ((pc : Int) + o).toNat = pc') (hp2 : pc + 3 = pc2) {x : Int32} {a b : Int} (ha : x.toInt = a) (hb' : (0 : Int32).toInt = b) (yes : cnd cd a b → Run p e below F T (mkF m pc' ls st)) (no : ¬ cnd cd a b → Run p e below F T (mkF m pc2 ls st)) : Run p e below F T (mkF m pc ls (.int x :: st)) := by
  obtain ⟨⟨hx, hby, hml, hZ, hown, hnm, hret, hlk⟩, hs0, eT, locs, S, N⟩ := X
  subst ha hb' hp2
  by_cases w : cnd cd x.toInt (0 : Int32).toInt
  · exact Run.of (fun t q => XS.ifYes S.here hx rfl rfl (hb hby hd) rfl ((if0 _ _).trans ((cnd_iff cd x 0).mpr w)) ho hp q) (yes w)
  · exact Run.of (fun t q => XS.ifNo S.here hx rfl (hb hby hd) rfl ((if0 _ _).trans (Bool.eq_false_iff.mpr fun z => w ((cnd_iff cd x 0).mp z))) q) (no w)
theorem r_ifY (X : Here p l e R s m args below meth c Z own nm bs ml rt n0 T h k n) {cd : ClassFile.Cond} {o : Int} (hd : decode bs pc = .ok (.ifCond cd o, 3)) (ho : 0 ≤ (pc : Int) + o) (hp : ((pc : Int) + o).toNat = pc') {x : Int32} {a b : Int} (ha : x.toInt = a) (hb' : (0 : Int32).toInt = b) (w : cnd cd a b) (r : Run p e below F T (mkF m pc' ls st)) : Run p e below F T (mkF m pc ls (.int x :: st)) :=
  r_if X hd ho hp rfl ha hb' (fun _ => r) (fun z => absurd w z)
theorem r_ifN (X : Here p l e R s m args below meth c Z own nm bs ml rt n0 T h k n) {cd : ClassFile.Cond} {o : Int} (hd : decode bs pc = .ok (.ifCond cd o, 3)) (ho : 0 ≤ (pc : Int) + o) (hp2 : pc + 3 = pc2) {x : Int32} {a b : Int} (ha : x.toInt = a) (hb' : (0 : Int32).toInt = b) (w : ¬ cnd cd a b) (r : Run p e below F T (mkF m pc2 ls st)) : Run p e below F T (mkF m pc ls (.int x :: st)) :=
  r_if X hd ho rfl hp2 ha hb' (fun z => absurd z w) (fun _ => r)
theorem r_acmpN (X : Here p l e R s m args below meth c Z own nm bs ml rt n0 T h k n) {cd : ACond} {o : Int} {x y : Addr} (hd : decode bs pc = .ok (.if_acmp cd o, 3)) (hc : XT.acmp cd (.ref x) (.ref y) = false) (hp : pc + 3 = pc') (r : Run p e below F T (mkF m pc' ls st)) : Run p e below F T (mkF m pc ls (.ref y :: .ref x :: st)) := by
  obtain ⟨⟨hx, hby, hml, hZ, hown, hnm, hret, hlk⟩, hs0, eT, locs, S, N⟩ := X
  subst hp
  exact Run.of (fun t q => XT.acmpNo S.here hx rfl (hb hby hd) rfl rfl rfl hc q) r
theorem r_retN {ft : FieldType} (X : Here p l e R s m args below meth c Z own nm bs ml (some ft) n0 T h k n) (ht : ft = .boolean ∨ ft = .byte ∨ ft = .char ∨ ft = .short) (hd : decode bs pc = .ok (.ireturn, 1)) {z w : Int32} (hz : nar ft z = w) (hQ : Q (some (.int w)) h) (hk : k ≤ kc) (hn : n ≤ ks) : Run p e below (Fnl s n0 kc ks Q) T (mkF m pc ls (.int z :: st)) := by
  obtain ⟨⟨hx, hby, hml, hZ, hown, hnm, hret, hlk⟩, hs0, eT, locs, S, N⟩ := X
  subst hz
  obtain ⟨fs, hr, hrun, hended, hW, hsame⟩ := S.leave (v := some (.int (nar ft z))) (fun w => by rw [hret] at w; cases w)
  refine ⟨_, _, ?_, hrun, hended, _, _, rfl, ⟨?_, ?_, N⟩, ⟨_, rfl⟩, hW, hsame.mono hk hn⟩
  · exact retN S hx hret ht (hb hby hd) hr
  · show Q _ T.heap
    rw [eT]; exact hQ
  · show n0 ≤ T.heap.size
    rw [eT]; exact hs0
theorem r_retI (X : Here p l e R s m args below meth c Z own nm bs ml (some .int) n0 T h k n) (hd : decode bs pc = .ok (.ireturn, 1)) {z : Int32} (hQ : Q (some (.int z)) h) (hk : k ≤ kc) (hn : n ≤ ks) : Run p e below (Fnl s n0 kc ks Q) T (mkF m pc ls (.int z :: st)) := by
  obtain ⟨⟨hx, hby, hml, hZ, hown, hnm, hret, hlk⟩, hs0, eT, locs, S, N⟩ := X
  obtain ⟨fs, hr, hrun, hended, hW, hsame⟩ := S.leave (v := some (.int z)) (fun w => by rw [hret] at w; cases w)
  refine ⟨_, _, ?_, hrun, hended, _, _, rfl, ⟨?_, ?_, N⟩, ⟨_, rfl⟩, hW, hsame.mono hk hn⟩
  · exact retOut S hx hret rfl (Or.inl ⟨rfl, Or.inl rfl, _, rfl⟩) (hb hby hd) hr
  · show Q _ T.heap
    rw [eT]; exact hQ
  · show n0 ≤ T.heap.size
    rw [eT]; exact hs0
theorem r_retL (X : Here p l e R s m args below meth c Z own nm bs ml (some .long) n0 T h k n) (hd : decode bs pc = .ok (.lreturn, 1)) {z : Int64} (hQ : Q (some (.long z)) h) (hk : k ≤ kc) (hn : n ≤ ks) : Run p e below (Fnl s n0 kc ks Q) T (mkF m pc ls (.long z :: st)) := by
  obtain ⟨⟨hx, hby, hml, hZ, hown, hnm, hret, hlk⟩, hs0, eT, locs, S, N⟩ := X
  obtain ⟨fs, hr, hrun, hended, hW, hsame⟩ := S.leave (v := some (.long z)) (fun w => by rw [hret] at w; cases w)
  refine ⟨_, _, ?_, hrun, hended, _, _, rfl, ⟨?_, ?_, N⟩, ⟨_, rfl⟩, hW, hsame.mono hk hn⟩
  · exact retOut S hx hret rfl (Or.inr (Or.inl ⟨rfl, rfl, _, rfl⟩)) (hb hby hd) hr
  · show Q _ T.heap
    rw [eT]; exact hQ
  · show n0 ≤ T.heap.size
    rw [eT]; exact hs0
theorem r_retA {ft : FieldType} (X : Here p l e R s m args below meth c Z own nm bs ml (some ft) n0 T h k n) (ht : ft.isReference = true) (hd : decode bs pc = .ok (.areturn, 1)) {a : Addr} (hQ : Q (some (.ref a)) h) (hk : k ≤ kc) (hn : n ≤ ks) : Run p e below (Fnl s n0 kc ks Q) T (mkF m pc ls (.ref a :: st)) := by
  obtain ⟨⟨hx, hby, hml, hZ, hown, hnm, hret, hlk⟩, hs0, eT, locs, S, N⟩ := X
  obtain ⟨fs, hr, hrun, hended, hW, hsame⟩ := S.leave (v := some (.ref a)) (fun w => by rw [hret] at w; cases w)
  refine ⟨_, _, ?_, hrun, hended, _, _, rfl, ⟨?_, ?_, N⟩, ⟨_, rfl⟩, hW, hsame.mono hk hn⟩
  · exact retOut S hx hret (by cases ft <;> first | rfl | (exfalso; revert ht; decide)) (Or.inr (Or.inr (Or.inr (Or.inr ⟨rfl, ht, rfl⟩)))) (hb hby hd) hr
  · show Q _ T.heap
    rw [eT]; exact hQ
  · show n0 ≤ T.heap.size
    rw [eT]; exact hs0
theorem r_ret (X : Here p l e R s m args below meth c Z own nm bs ml none n0 T h k n) (hd : decode bs pc = .ok (.return_, 1)) (hQ : Q none h) (hk : k ≤ kc) (hn : n ≤ ks) : Run p e below (Fnl s n0 kc ks Q) T (mkF m pc ls []) := by
  obtain ⟨⟨hx, hby, hml, hZ, hown, hnm, hret, hlk⟩, hs0, eT, locs, S, N⟩ := X
  obtain ⟨fs, hr, hrun, hended, hW, hsame⟩ := S.leave (v := none) (fun _ => rfl)
  refine ⟨_, _, ?_, hrun, hended, _, _, rfl, ⟨?_, ?_, N⟩, ⟨_, rfl⟩, hW, hsame.mono hk hn⟩
  · exact S.returnOut hx hret (hb hby hd) hr
  · show Q _ T.heap
    rw [eT]; exact hQ
  · show n0 ≤ T.heap.size
    rw [eT]; exact hs0
/-- the array at a has N components of kind ty; the j-th holds the int f j -/
def Arf (Z : State) (h : Heap) (a : Addr) (ty : FieldType) (N : Nat) (f : Nat → Int32) : Prop := ∃ cl : Cell, Arr Z h a cl ty ∧ cl.slots.size = N ∧ ∀ j, j < N → cl.slots[j]? = some (.int (f j))
def upd (f : Nat → Int32) (i : Nat) (v : Int32) : Nat → Int32 := fun j => if j = i then v else f j
theorem upd_same (f : Nat → Int32) (i : Nat) (v : Int32) : upd f i v i = v := if_pos rfl
theorem upd_ne (f : Nat → Int32) {i j : Nat} (v : Int32) (q : j ≠ i) : upd f i v j = f j := if_neg q
theorem Arf.lt {a : Addr} {ty : FieldType} {N : Nat} {f : Nat → Int32} (A : Arf Z h a ty N f) : a < h.size := by obtain ⟨_, A, -⟩ := A; exact A.lt
theorem Arf.ext {a : Addr} {ty : FieldType} {N : Nat} {f : Nat → Int32} {h' : Heap} (A : Arf Z h a ty N f) (E : Ext h h') : Arf Z h' a ty N f := by obtain ⟨cl, A, r⟩ := A; exact ⟨cl, A.ext E, r⟩
theorem Arf.other {a b : Addr} {ty : FieldType} {N sl : Nat} {f : Nat → Int32} {h' : Heap} {v : Value} (A : Arf Z h b ty N f) (W : Wr h h' a sl v) (q : b ≠ a) : Arf Z h' b ty N f := by obtain ⟨cl, A, r⟩ := A; exact ⟨cl, A.other W q, r⟩
theorem Arf.keep {a : Addr} {ty : FieldType} {N : Nat} {f : Nat → Int32} {h' : Heap} {ws : List Addr} (A : Arf Z h a ty N f) (K : Keep h h' ws) (q : a ∉ ws) : Arf Z h' a ty N f := by obtain ⟨cl, A, r⟩ := A; exact ⟨cl, ⟨K.2.1 a cl A.1 q, A.2⟩, r⟩
theorem Arf.cast {a : Addr} {ty : FieldType} {N : Nat} {f g : Nat → Int32} (A : Arf Z h a ty N f) (q : ∀ j, j < N → f j = g j) : Arf Z h a ty N g := by obtain ⟨cl, A, S, H⟩ := A; exact ⟨cl, A, S, fun j hj => by rw [H j hj, q j hj]⟩
theorem Arf.set {a : Addr} {ty : FieldType} {N i : Nat} {f : Nat → Int32} {h' : Heap} {v : Int32} (A : Arf Z h a ty N f) (W : Wr h h' a i (.int v)) : Arf Z h' a ty N (upd f i v) := by
  obtain ⟨cl, A, S, H⟩ := A
  refine ⟨_, A.same W, by rw [sz_set]; exact S, fun j hj => ?_⟩
  by_cases q : j = i
  · subst q; rw [upd_same]; simp [Cell.setSlot, S, hj]
  · rw [upd_ne f v q]; simp only [Cell.setSlot]; rw [Array.getElem?_setIfInBounds_ne (Ne.symm q)]; exact H j hj
theorem ix_clamp {j : Int32} {i : Nat} (hj : j.toInt = i) : j.toNatClampNeg = i := by simp [Int32.toNatClampNeg, hj]
theorem ix_in {j : Int32} {i N : Nat} (hj : j.toInt = i) (hi : i < N) {cl : Cell} (S : cl.slots.size = N) : ¬ (j < 0 ∨ cl.slots.size ≤ j.toNatClampNeg) := by
  rw [ix_clamp hj, S, Int32.lt_iff_toInt_lt, hj]
  have e0 : (0 : Int32).toInt = 0 := rfl
  omega
theorem r_baload (X : Here p l e R s m args below meth c Z own nm bs ml rt n0 T h k n) {a : Addr} {N i : Nat} {f : Nat → Int32} {j v : Int32} (hd : decode bs pc = .ok (.baload, 1)) (A : Arf Z h a .byte N f) (hj : j.toInt = i) (hi : i < N) (hv : f i = v) (hp : pc + 1 = pc') (r : Run p e below F T (mkF m pc' ls (.int v :: st))) : Run p e below F T (mkF m pc ls (.int j :: .ref a :: st)) := by
  obtain ⟨⟨hx, hby, hml, hZ, hown, hnm, hret, hlk⟩, hs0, eT, locs, S, N⟩ := X
  subst hp hv
  obtain ⟨cl, A, SZ, H⟩ := A
  exact Run.of (fun t q => S.baloadBytes hx (j := j) (by rw [eT]; exact A.1) (State.isArrayOf_alike hZ.alike A.2.1) A.2.2 (ix_in hj hi SZ) (by rw [ix_clamp hj]; exact H i hi) (g := mkF m pc ls (.int j :: .ref a :: st)) rfl rfl (hb hby hd) t q) r
theorem r_caload (X : Here p l e R s m args below meth c Z own nm bs ml rt n0 T h k n) {a : Addr} {N i : Nat} {f : Nat → Int32} {j v : Int32} (hd : decode bs pc = .ok (.caload, 1)) (A : Arf Z h a .char N f) (hj : j.toInt = i) (hi : i < N) (hv : f i = v) (hp : pc + 1 = pc') (r : Run p e below F T (mkF m pc' ls (.int v :: st))) : Run p e below F T (mkF m pc ls (.int j :: .ref a :: st)) := by
  obtain ⟨⟨hx, hby, hml, hZ, hown, hnm, hret, hlk⟩, hs0, eT, locs, S, N⟩ := X
  subst hp hv
  obtain ⟨cl, A, SZ, H⟩ := A
  exact Run.of (fun t q => S.caload hx (j := j) (by rw [eT]; exact A.1) (State.isArrayOf_alike hZ.alike A.2.1) A.2.2 (ix_in hj hi SZ) (by rw [ix_clamp hj]; exact H i hi) (g := mkF m pc ls (.int j :: .ref a :: st)) rfl rfl (hb hby hd) t q) r
theorem r_iaload (X : Here p l e R s m args below meth c Z own nm bs ml rt n0 T h k n) {a : Addr} {N i : Nat} {f : Nat → Int32} {j v : Int32} (hd : decode bs pc = .ok (.iaload, 1)) (A : Arf Z h a .int N f) (hj : j.toInt = i) (hi : i < N) (hv : f i = v) (hp : pc + 1 = pc') (r : Run p e below F T (mkF m pc' ls (.int v :: st))) : Run p e below F T (mkF m pc ls (.int j :: .ref a :: st)) := by
  obtain ⟨⟨hx, hby, hml, hZ, hown, hnm, hret, hlk⟩, hs0, eT, locs, S, N⟩ := X
  subst hp hv
  obtain ⟨cl, A, SZ, H⟩ := A
  exact Run.of (fun t q => S.iaload hx (j := j) (by rw [eT]; exact A.1) (State.isArrayOf_alike hZ.alike A.2.1) A.2.2 (ix_in hj hi SZ) (by rw [ix_clamp hj]; exact H i hi) (g := mkF m pc ls (.int j :: .ref a :: st)) rfl rfl (hb hby hd) t q) r
theorem r_arraylength (X : Here p l e R s m args below meth c Z own nm bs ml rt n0 T h k n) {a : Addr} {ty : FieldType} {N : Nat} {f : Nat → Int32} {v : Int32} (hd : decode bs pc = .ok (.arraylength, 1)) (A : Arf Z h a ty N f) (hv : N.toInt32 = v) (hp : pc + 1 = pc') (r : Run p e below F T (mkF m pc' ls (.int v :: st))) : Run p e below F T (mkF m pc ls (.ref a :: st)) := by
  obtain ⟨⟨hx, hby, hml, hZ, hown, hnm, hret, hlk⟩, hs0, eT, locs, S, N⟩ := X
  subst hp hv
  obtain ⟨cl, A, SZ, H⟩ := A
  subst SZ
  exact Run.of (fun t q => S.arraylength hx (cell := cl) (by rw [eT]; exact A.1) (State.isArrayOf_alike hZ.alike A.2.1) (g := mkF m pc ls (.ref a :: st)) rfl rfl (hb hby hd) t q) r
theorem r_bastore (X : Here p l e R s m args below meth c Z own nm bs ml rt n0 T h k n) {a : Addr} {N i : Nat} {f : Nat → Int32} {j x v : Int32} (hd : decode bs pc = .ok (.bastore, 1)) (A : Arf Z h a .byte N f) (hj : j.toInt = i) (hi : i < N) (ge : n0 ≤ a) (hv : nar .byte x = v) (hp : pc + 1 = pc') (r : ∀ T' h', Here p l e R s m args below meth c Z own nm bs ml rt n0 T' h' k n → Wr h h' a i (.int v) → Arf Z h' a .byte N (upd f i v) → Run p e below F T' (mkF m pc' ls st)) : Run p e below F T (mkF m pc ls (.int x :: .int j :: .ref a :: st)) := by
  obtain ⟨⟨hx, hby, hml, hZ, hown, hnm, hret, hlk⟩, hs0, eT, locs, S, N_⟩ := X
  subst hp hv
  obtain ⟨cl, A, SZ, H⟩ := A
  obtain ⟨T', h', X', e', W, st'⟩ := stB S hx hZ eT A (j := j) (x := x) (ix_in hj hi SZ) (g := mkF m pc ls (.int x :: .int j :: .ref a :: st)) rfl rfl (hb hby hd)
  rw [ix_clamp hj] at W
  refine Run.of (fun t q => st' t q) (r T' h' ⟨⟨hx, hby, hml, hZ, hown, hnm, hret, hlk⟩, ?_, e', _, X', Fr.snoc X' N_ ge⟩ W (Arf.set ⟨cl, A, SZ, H⟩ W))
  rw [W.size]; exact hs0
theorem r_castore (X : Here p l e R s m args below meth c Z own nm bs ml rt n0 T h k n) {a : Addr} {N i : Nat} {f : Nat → Int32} {j x v : Int32} (hd : decode bs pc = .ok (.castore, 1)) (A : Arf Z h a .char N f) (hj : j.toInt = i) (hi : i < N) (ge : n0 ≤ a) (hv : nar .char x = v) (hp : pc + 1 = pc') (r : ∀ T' h', Here p l e R s m args below meth c Z own nm bs ml rt n0 T' h' k n → Wr h h' a i (.int v) → Arf Z h' a .char N (upd f i v) → Run p e below F T' (mkF m pc' ls st)) : Run p e below F T (mkF m pc ls (.int x :: .int j :: .ref a :: st)) := by
  obtain ⟨⟨hx, hby, hml, hZ, hown, hnm, hret, hlk⟩, hs0, eT, locs, S, N_⟩ := X
  subst hp hv
  obtain ⟨cl, A, SZ, H⟩ := A
  obtain ⟨T', h', X', e', W, st'⟩ := stC S hx hZ eT A (j := j) (x := x) (ix_in hj hi SZ) (g := mkF m pc ls (.int x :: .int j :: .ref a :: st)) rfl rfl (hb hby hd)
  rw [ix_clamp hj] at W
  refine Run.of (fun t q => st' t q) (r T' h' ⟨⟨hx, hby, hml, hZ, hown, hnm, hret, hlk⟩, ?_, e', _, X', Fr.snoc X' N_ ge⟩ W (Arf.set ⟨cl, A, SZ, H⟩ W))
  rw [W.size]; exact hs0
theorem r_iastore (X : Here p l e R s m args below meth c Z own nm bs ml rt n0 T h k n) {a : Addr} {N i : Nat} {f : Nat → Int32} {j x v : Int32} (hd : decode bs pc = .ok (.iastore, 1)) (A : Arf Z h a .int N f) (hj : j.toInt = i) (hi : i < N) (ge : n0 ≤ a) (hv : x = v) (hp : pc + 1 = pc') (r : ∀ T' h', Here p l e R s m args below meth c Z own nm bs ml rt n0 T' h' k n → Wr h h' a i (.int v) → Arf Z h' a .int N (upd f i v) → Run p e below F T' (mkF m pc' ls st)) : Run p e below F T (mkF m pc ls (.int x :: .int j :: .ref a :: st)) := by
  obtain ⟨⟨hx, hby, hml, hZ, hown, hnm, hret, hlk⟩, hs0, eT, locs, S, N_⟩ := X
  subst hp hv
  obtain ⟨cl, A, SZ, H⟩ := A
  obtain ⟨T', h', X', e', W, st'⟩ := stI S hx hZ eT A (j := j) (x := x) (ix_in hj hi SZ) (g := mkF m pc ls (.int x :: .int j :: .ref a :: st)) rfl rfl (hb hby hd)
  rw [ix_clamp hj] at W
  refine Run.of (fun t q => st' t q) (r T' h' ⟨⟨hx, hby, hml, hZ, hown, hnm, hret, hlk⟩, ?_, e', _, X', Fr.snoc X' N_ ge⟩ W (Arf.set ⟨cl, A, SZ, H⟩ W))
  rw [W.size]; exact hs0
theorem r_newarray (X : Here p l e R s m args below meth c Z own nm bs ml rt n0 T h k n) {aty : ArrayType} {z : Int32} {N : Nat} (hd : decode bs pc = .ok (.newarray aty, 2)) (w : (Jvm.Cond.arrayClass (newarray.typeOf aty)).before a0 Z = true) (hz : z.toInt = N) (hdf : defaultValue (newarray.typeOf aty) = .int 0) (hb8 : N * 8 ≤ 536870912) (hc : k + 1 ≤ R.cells) (hl : n + N ≤ R.slots) (hp : pc + 2 = pc') (r : ∀ T' h' b, Here p l e R s m args below meth c Z own nm bs ml rt n0 T' h' (k + 1) (n + N) → b = h.size → n0 ≤ b → Ext h h' → Arf Z h' b (newarray.typeOf aty) N (fun _ => 0) → Run p e below F T' (mkF m pc' ls (.ref b :: st))) : Run p e below F T (mkF m pc ls (.int z :: st)) := by
  obtain ⟨⟨hx, hby, hml, hZ, hown, hnm, hret, hlk⟩, hs0, eT, locs, S, N_⟩ := X
  subst hp
  have hneg : ¬ z < 0 := by
    rw [Int32.lt_iff_toInt_lt, hz]
    have e0 : (0 : Int32).toInt = 0 := rfl
    omega
  obtain ⟨T', h', cA, X', e', E, A, st'⟩ := newP S hx hZ w eT (g := mkF m pc ls (.int z :: st)) rfl (hb hby hd) rfl hneg (cap := N) (Nat.le_of_eq (ix_clamp hz)) hb8 hc hl
  refine Run.of (fun t q => st' t q) (r T' h' h.size ⟨⟨hx, hby, hml, hZ, hown, hnm, hret, hlk⟩, Nat.le_trans hs0 E.1, e', _, X', N_⟩ rfl hs0 E ⟨_, A, (sz_new _ _ _).trans (ix_clamp hz), fun j hj => ?_⟩)
  simp [newA, ix_clamp hz, hj, hdf]
theorem r_new (X : Here p l e R s m args below meth c Z own nm bs ml rt n0 T h k n) {C : String} {i sz : Nat} (hd : decode bs pc = .ok (.new i, 3)) (w : (Jvm.Cond.classLink own i C).before a0 Z = true) (wi : (Jvm.Cond.instantiable C sz).before a0 Z = true) (wz : (Jvm.Cond.initialized C).before a0 Z = true) (hc : k + 1 ≤ R.cells) (hl : n + sz ≤ R.slots) (hp : pc + 3 = pc') (r : ∀ T' h' b, Here p l e R s m args below meth c Z own nm bs ml rt n0 T' h' (k + 1) (n + sz) → b = h.size → n0 ≤ b → Ext h h' → Exa Z h' b C → (∀ {O f d : String} {ty : FieldType}, Laid Z a0 C O f d → parseFieldDescriptor d = some ty → Fld Z h' b O f d (defaultValue ty)) → Run p e below F T' (mkF m pc' ls (.ref b :: st))) : Run p e below F T (mkF m pc ls st) := by
  obtain ⟨⟨hx, hby, hml, hZ, hown, hnm, hret, hlk⟩, hs0, eT, locs, S, N⟩ := X
  subst hp
  obtain ⟨T', h', X', e', E, A, D, -, st'⟩ := newO S hx hZ hown w wi wz eT (g := mkF m pc ls st) rfl (hb hby hd) hc hl
  exact Run.of (fun t q => st' t q) (r T' h' h.size ⟨⟨hx, hby, hml, hZ, hown, hnm, hret, hlk⟩, Nat.le_trans hs0 E.1, e', _, X', N⟩ rfl hs0 E A D)
theorem r_getfield (X : Here p l e R s m args below meth c Z own nm bs ml rt n0 T h k n) {R0 f d : String} {i : Nat} {a : Addr} {v : Value} (hd : decode bs pc = .ok (.getfield i, 3)) (w : (Jvm.Cond.fieldLink own i R0 f d).before a0 Z = true) (Ff : Fld Z h a R0 f d v) (hp : pc + 3 = pc') (r : ∀ T', Here p l e R s m args below meth c Z own nm bs ml rt n0 T' h k n → Run p e below F T' (mkF m pc' ls (v :: st))) : Run p e below F T (mkF m pc ls (.ref a :: st)) := by
  obtain ⟨⟨hx, hby, hml, hZ, hown, hnm, hret, hlk⟩, hs0, eT, locs, S, N⟩ := X
  subst hp
  obtain ⟨T', X', e', st'⟩ := getF S hx hZ hown (host := "") (Or.inl w) Via.refl eT Ff (g := mkF m pc ls (.ref a :: st)) rfl rfl (hb hby hd)
  exact Run.of (fun t q => st' t q) (r T' ⟨⟨hx, hby, hml, hZ, hown, hnm, hret, hlk⟩, hs0, e', _, X', N⟩)
theorem r_putfield (X : Here p l e R s m args below meth c Z own nm bs ml rt n0 T h k n) {R0 f d C : String} {i kk : Nat} {a : Addr} {v old : Value} {ty : FieldType} (hd : decode bs pc = .ok (.putfield i, 3)) (w : (Jvm.Cond.fieldLink own i R0 f d).before a0 Z = true) (Ff : Fld Z h a R0 f d old) (E : Exa Z h a C) (L : (Jvm.Cond.lays C R0 f d).before a0 Z = true ∨ ((Jvm.Cond.laysFinal C R0 f d).before a0 Z = true ∧ own = R0 ∧ nm = "<init>")) (wi : (Jvm.Cond.instantiable C kk).before a0 Z = true) (hty : parseFieldDescriptor d = some ty) (hn : narrow ty v = v) (hf : fits ty v = true) (ge : n0 ≤ a) (hp : pc + 3 = pc') (r : ∀ T' h', Here p l e R s m args below meth c Z own nm bs ml rt n0 T' h' k n → Wr h h' a (Jvm.RoadKit.slotOf Z R0 f d) v → Run p e below F T' (mkF m pc' ls st)) : Run p e below F T (mkF m pc ls (v :: .ref a :: st)) := by
  obtain ⟨⟨hx, hby, hml, hZ, hown, hnm, hret, hlk⟩, hs0, eT, locs, S, N⟩ := X
  subst hp
  obtain ⟨T', h', X', e', W, st'⟩ := putF S hx hZ hown (host := "") (Or.inl w) Via.refl eT Ff E (L.imp id fun q => ⟨q.1, q.2.1, hnm.trans q.2.2⟩) wi hty hn hf (g := mkF m pc ls (v :: .ref a :: st)) rfl rfl (hb hby hd)
  refine Run.of (fun t q => st' t q) (r T' h' ⟨⟨hx, hby, hml, hZ, hown, hnm, hret, hlk⟩, ?_, e', _, X', Fr.snoc X' N ge⟩ W)
  rw [W.size]; exact hs0
theorem r_initObject (X : Here p l e R s m args below meth c Z own nm bs ml rt n0 T h k n) {i : Nat} {a : Addr} (hd : decode bs pc = .ok (.invokespecial i, 3)) (w1 : (Jvm.Cond.methodLink own i Lib.objectInit).before a0 Z = true) (w2 : (Jvm.Cond.instanceMethod Lib.objectInit).before a0 Z = true) (w3 : (Jvm.Cond.code Lib.objectInit ⟨#[0xb1]⟩ 1 none).before a0 Z = true) (hsz : ls.size = ml) (hf : 1 ≤ R.frames) {W : Nat} (hW : (st.map fun v => v.category).sum = W) (hl : W + 12 ≤ R.locals) (hp : pc + 3 = pc') (r : ∀ T', Here p l e R s m args below meth c Z own nm bs ml rt n0 T' h k n → Run p e below F T' (mkF m pc' ls st)) : Run p e below F T (mkF m pc ls (.ref a :: st)) := by
  obtain ⟨⟨hx, hby, hml, hZ, hown, hnm, hret, hlk⟩, hs0, eT, locs, S, N⟩ := X
  subst hp
  obtain ⟨T', X', e', st'⟩ := initO S hx hZ hown w1 w2 w3 eT (g := mkF m pc ls (.ref a :: st)) rfl (by rw [hml]; exact hsz) rfl (hb hby hd) hf (W := W) (by show 2 * 0 + _ ≤ _; rw [hW]; omega) hl
  exact Run.of (fun t q => st' t q) (r T' ⟨⟨hx, hby, hml, hZ, hown, hnm, hret, hlk⟩, hs0, e', _, X', N⟩)
theorem r_callS (X : Here p l e R s m args below meth c Z own nm bs ml rt n0 T h k n) {y : MethodName} {i : Nat} {bs' : ByteArray} {ml' : Nat} {rt' : Option FieldType} {rm : Room} {Q' : Option Value → Heap → Prop} {ps : List FieldType} {rr : Option FieldType} {argsL rest : List Value} {W : Nat} (hd : decode bs pc = .ok (.invokestatic i, 3)) (C : Con l Z y bs' ml' rt' rm argsL.toArray h n0 rm.cells rm.slots Q') (w1 : (Jvm.Cond.methodLink own i y).before a0 Z = true) (w2 : (Jvm.Cond.static y).before a0 Z = true) (w3 : (Jvm.Cond.initialized y.cls).before a0 Z = true) (w4 : (Jvm.Cond.code y bs' ml' rt').before a0 Z = true) (hy : y.cls ≠ "java/lang/invoke/MethodHandle" ∧ y.cls ≠ "java/lang/invoke/VarHandle") (hst : st = argsL.reverse ++ rest) (hsz : ls.size = ml) (hpd : parseMethodDescriptor y.desc = some ⟨ps, rr⟩) (hlen : argsL.length = ps.length) (hW : (rest.map fun v => v.category).sum = W) (hf : rm.frames + 1 ≤ R.frames) (hl : W + (ml' + 11) + rm.locals ≤ R.locals) (hc : k + rm.cells ≤ R.cells) (hs : n + rm.slots ≤ R.slots) (hp : pc + 3 = pc') (r : ∀ v T' h', Here p l e R s m args below meth c Z own nm bs ml rt n0 T' h' (k + rm.cells) (n + rm.slots) → Q' v h' → Run p e below F T' (mkF m pc' ls (v.toList ++ rest))) : Run p e below F T (mkF m pc ls st) := by
  obtain ⟨⟨hx, hby, hml, hZ, hown, hnm, hret, hlk⟩, hs0, eT, locs, S, N⟩ := X
  subst hp hst
  obtain ⟨v, _, B, -, X', ⟨L, hQ, l1, l2, l3⟩, st'⟩ := Jvm.LawKit.callS S hx (y := y) hown (mvT hZ w1) (mvT hZ w2) (mvT hZ w3) (mvT hZ w4) hy (backOf (W := W) (Q := fun v hh L => Q' v hh ∧ n0 ≤ hh.size ∧ Fr n0 L) (C []) hZ w4 w3 hf hl) (g := mkF m pc ls (argsL.reverse ++ rest)) rfl (by rw [hml]; exact hsz) (argsL := argsL) (rest := rest) (lenOf hpd hlen) rfl (by show 2 * 0 + _ ≤ _; rw [hW]; omega) (hb hby hd) (fun _ _ => ⟨rfl, eT, hc, hs⟩)
  obtain ⟨hQ, hs1, hF⟩ := hQ
  have X'' : Here p l e R s m args below meth c Z own nm bs ml rt n0 B.U B.U.heap (k + rm.cells) (n + rm.slots) := ⟨⟨hx, hby, hml, hZ, hown, hnm, hret, hlk⟩, hs1, rfl, B.locs, by rw [l2, l3] at X'; exact X', by rw [l1]; exact Fr.app N hF⟩
  exact Run.of (fun t q => st' t q) (r v B.U B.U.heap X'' hQ)
theorem r_init (X : Here p l e R s m args below meth c Z own nm bs ml rt n0 T h k n) {y : MethodName} {i : Nat} {bs' : ByteArray} {ml' : Nat} {rm : Room} {Q' : Option Value → Heap → Prop} {ps : List FieldType} {rr : Option FieldType} {argsL rest : List Value} {W : Nat} {a : Addr} (hd : decode bs pc = .ok (.invokespecial i, 3)) (C : Con l Z y bs' ml' none rm (.ref a :: argsL).toArray h n0 rm.cells rm.slots Q') (hy1 : y.name = "<init>") (w1 : (Jvm.Cond.methodLink own i y).before a0 Z = true) (w2 : (Jvm.Cond.instanceMethod y).before a0 Z = true) (w3 : (Jvm.Cond.initialized y.cls).before a0 Z = true) (w4 : (Jvm.Cond.code y bs' ml' none).before a0 Z = true) (hy : y.cls ≠ "java/lang/invoke/MethodHandle" ∧ y.cls ≠ "java/lang/invoke/VarHandle") (hst : st = argsL.reverse ++ .ref a :: rest) (hsz : ls.size = ml) (hpd : parseMethodDescriptor y.desc = some ⟨ps, rr⟩) (hlen : argsL.length = ps.length) (hW : (rest.map fun v => v.category).sum = W) (hf : rm.frames + 1 ≤ R.frames) (hl : W + (ml' + 11) + rm.locals ≤ R.locals) (hc : k + rm.cells ≤ R.cells) (hs : n + rm.slots ≤ R.slots) (hp : pc + 3 = pc') (r : ∀ v T' h', Here p l e R s m args below meth c Z own nm bs ml rt n0 T' h' (k + rm.cells) (n + rm.slots) → Q' v h' → Run p e below F T' (mkF m pc' ls (v.toList ++ rest))) : Run p e below F T (mkF m pc ls st) := by
  obtain ⟨⟨hx, hby, hml, hZ, hown, hnm, hret, hlk⟩, hs0, eT, locs, S, N⟩ := X
  subst hp hst
  obtain ⟨v, _, B, -, X', ⟨L, hQ, l1, l2, l3⟩, st'⟩ := S.specialBack hx (y := y) hy1 hown (mvT hZ w1) (mvT hZ w2) (mvT hZ w4) hy (backOf (W := W) (Q := fun v hh L => Q' v hh ∧ n0 ≤ hh.size ∧ Fr n0 L) (C []) hZ w4 w3 hf hl) (g := mkF m pc ls (argsL.reverse ++ .ref a :: rest)) rfl (by rw [hml]; exact hsz) (Steps.refl _) (a := a) (argsL := argsL) (rest := rest) (lenOf hpd hlen) rfl (by show 2 * 0 + _ ≤ _; rw [hW]; omega) (hb hby hd) (fun _ _ => ⟨rfl, eT, hc, hs⟩)
  obtain ⟨hQ, hs1, hF⟩ := hQ
  have X'' : Here p l e R s m args below meth c Z own nm bs ml rt n0 B.U B.U.heap (k + rm.cells) (n + rm.slots) := ⟨⟨hx, hby, hml, hZ, hown, hnm, hret, hlk⟩, hs1, rfl, B.locs, by rw [l2, l3] at X'; exact X', by rw [l1]; exact Fr.app N hF⟩
  exact Run.of (fun t q => st'.trans q) (r v B.U B.U.heap X'' hQ)
theorem r_callV (X : Here p l e R s m args below meth c Z own nm bs ml rt n0 T h k n) {y : MethodName} {i : Nat} {bs' : ByteArray} {ml' : Nat} {rt' : Option FieldType} {rm : Room} {Q' : Option Value → Heap → Prop} {ps : List FieldType} {rr : Option FieldType} {argsL rest : List Value} {W : Nat} {C0 : String} {a : Addr} (hd : decode bs pc = .ok (.invokevirtual i, 3)) (C : Con l Z y bs' ml' rt' rm (.ref a :: argsL).toArray h n0 rm.cells rm.slots Q') (E : Exa Z h a C0) (w1 : (Jvm.Cond.methodLink own i y).before a0 Z = true) (w2 : (Jvm.Cond.declares y).before a0 Z = true) (w5 : (Jvm.Cond.selects C0 y y).before a0 Z = true) (w6 : (Jvm.Cond.instanceMethod y).before a0 Z = true) (w3 : (Jvm.Cond.initialized y.cls).before a0 Z = true) (w4 : (Jvm.Cond.code y bs' ml' rt').before a0 Z = true) (hy : y.cls ≠ "java/lang/invoke/MethodHandle" ∧ y.cls ≠ "java/lang/invoke/VarHandle") (hst : st = argsL.reverse ++ .ref a :: rest) (hsz : ls.size = ml) (hpd : parseMethodDescriptor y.desc = some ⟨ps, rr⟩) (hlen : argsL.length = ps.length) (hW : (rest.map fun v => v.category).sum = W) (hf : rm.frames + 1 ≤ R.frames) (hl : W + (ml' + 11) + rm.locals ≤ R.locals) (hc : k + rm.cells ≤ R.cells) (hs : n + rm.slots ≤ R.slots) (hp : pc + 3 = pc') (r : ∀ v T' h', Here p l e R s m args below meth c Z own nm bs ml rt n0 T' h' (k + rm.cells) (n + rm.slots) → Q' v h' → Run p e below F T' (mkF m pc' ls (v.toList ++ rest))) : Run p e below F T (mkF m pc ls st) := by
  obtain ⟨⟨hx, hby, hml, hZ, hown, hnm, hret, hlk⟩, hs0, eT, locs, S, N⟩ := X
  subst hp hst
  obtain ⟨cq, kq, qa, qb, qc⟩ := isOf hZ eT E
  obtain ⟨v, _, B, -, X', ⟨L, hQ, l1, l2, l3⟩, st'⟩ := S.virtualBack hx (y := y) (z := y) hown (mvT hZ w1) (mvT hZ w2) (notFace_of_selects (args := #[]) (mvT hZ w5)) (mvT hZ w5) (mvT hZ w6) hy (backOf (W := W) (Q := fun v hh L => Q' v hh ∧ n0 ≤ hh.size ∧ Fr n0 L) (C []) hZ w4 w3 hf hl) qa qc (g := mkF m pc ls (argsL.reverse ++ .ref a :: rest)) rfl (by rw [hml]; exact hsz) (Steps.refl _) (argsL := argsL) (rest := rest) (lenOf hpd hlen) rfl (by show 2 * 0 + _ ≤ _; rw [hW]; omega) (hb hby hd) (fun _ _ => ⟨rfl, eT, hc, hs⟩)
  obtain ⟨hQ, hs1, hF⟩ := hQ
  have X'' : Here p l e R s m args below meth c Z own nm bs ml rt n0 B.U B.U.heap (k + rm.cells) (n + rm.slots) := ⟨⟨hx, hby, hml, hZ, hown, hnm, hret, hlk⟩, hs1, rfl, B.locs, by rw [l2, l3] at X'; exact X', by rw [l1]; exact Fr.app N hF⟩
  exact Run.of (fun t q => st'.trans q) (r v B.U B.U.heap X'' hQ)
end Own
/-- an int by its bits' number -/
theorem n_bits (x : Int32) : x.toInt = ((x.toBitVec.toNat : Int) + 2147483648) % 4294967296 - 2147483648 := by
  have e : x.toInt = x.toBitVec.toInt := rfl
  have hb := x.toBitVec.isLt
  rw [e, BitVec.toInt_eq_toNat_cond]
  split <;> omega
theorem n_i2b (x : Int32) : (x.toInt8.toInt32).toInt = (x.toInt + 128) % 256 - 128 := by
  rw [Int8.toInt_toInt32, Int32.toInt_toInt8, Int.bmod_def]; omega
theorem n_i2c (x : Int32) : (x.toUInt32.toUInt16.toUInt32.toInt32).toInt = x.toInt % 65536 := by
  have h : (x.toUInt32.toUInt16.toUInt32.toInt32).toBitVec.toNat = x.toBitVec.toNat % 65536 := by
    show ((x.toBitVec.setWidth 16).setWidth 32).toNat = _
    rw [BitVec.toNat_setWidth, BitVec.toNat_setWidth]; omega
  have h1 := n_bits (x.toUInt32.toUInt16.toUInt32.toInt32)
  have h2 := n_bits x
  have h3 := x.toBitVec.isLt
  omega
theorem n_narC (x : Int32) : nar .char x.toUInt32.toUInt16.toUInt32.toInt32 = x.toUInt32.toUInt16.toUInt32.toInt32 := by
  apply Int32.toInt_inj.mp
  show (Int32.toUInt32 _).toUInt16.toUInt32.toInt32.toInt = _
  rw [n_i2c, n_i2c]; omega
theorem n_narB (x : Int32) : nar .byte x.toInt8.toInt32 = x.toInt8.toInt32 := by
  apply Int32.toInt_inj.mp
  show (Int32.toInt8 _).toInt32.toInt = _
  rw [n_i2b, n_i2b]; omega
theorem n_add {x y : Int32} {a b : Int} (hx : x.toInt = a) (hy : y.toInt = b) (h1 : -2147483648 ≤ a + b) (h2 : a + b ≤ 2147483647) : (x + y).toInt = a + b := by
  subst hx hy; exact Jvm.Kit.i32_add (by omega) (by omega)
theorem n_sub {x y : Int32} {a b : Int} (hx : x.toInt = a) (hy : y.toInt = b) (h1 : -2147483648 ≤ a - b) (h2 : a - b ≤ 2147483647) : (x - y).toInt = a - b := by
  subst hx hy; exact Jvm.Kit.i32_sub (by omega) (by omega)
theorem n_nat {x : Int32} {n : Nat} (h : x.toInt = n) : x = Int32.ofNat n := by
  have a := x.toInt_lt
  exact Int32.toInt_inj.mp (by rw [h, Int32.toInt_ofNat_of_lt (by omega)])
theorem n_max (x : Int32) : 0 ≤ (x &&& (2147483647 : Int32)).toInt := by
  have : (x &&& (2147483647 : Int32)).toInt = x.toInt % 2 ^ 31 := Jvm.Kit.i32_mask x 2147483647 (k := 31) (by decide) (by decide)
  omega
theorem n_bitsL (x : Int64) : x.toInt = ((x.toBitVec.toNat : Int) + 9223372036854775808) % 18446744073709551616 - 9223372036854775808 := by
  have e : x.toInt = x.toBitVec.toInt := rfl
  have hb := x.toBitVec.isLt
  rw [e, BitVec.toInt_eq_toNat_cond]
  split <;> omega
theorem n_ushr (x y : Int32) (s : Nat) (hs : ((y &&& 31).toUInt32).toNat = s) (h1 : s < 32) : ((XT.ushr x y).toBitVec.toNat : Nat) = x.toBitVec.toNat / 2 ^ s := by
  show ((x.toUInt32 >>> (y &&& 31).toUInt32).toInt32).toBitVec.toNat = _
  simp only [UInt32.toBitVec_toInt32, UInt32.toBitVec_shiftRight, Int32.toBitVec_toUInt32]
  simp [BitVec.toNat_ushiftRight, Nat.shiftRight_eq_div_pow]
  have h2 : y.toBitVec.toNat &&& 31 = s := hs
  rw [h2, Nat.mod_eq_of_lt h1]
section OwnW
variable {p : Program} {l : Launch} {e : Env} {R : Room} {s : State} {m : MethodId} {args : Array Value} {below : List Frame} {meth : Method} {c : Code} {Z : State} {a0 : Array Value} {own nm : String} {bs : ByteArray} {ml : Nat} {rt : Option FieldType} {n0 kc ks : Nat} {Q : Option Value → Heap → Prop} {F : Outcome → State → Prop} {T : State} {h : Heap} {k n : Nat} {pc pc' pc2 : Nat} {ls ls' : Array Slot} {st : List Value} {EL : List (String × Nat)} {vm0 : Vm} {k0 : Nat}
theorem Con.of_bodyF {y : MethodName} {rm : Room} {as : Array Value} (hp : plainFor y = true) (hef : ∀ m, entryFrame m as ml = mkF m 0 ls []) (Z0 : n0 ≤ h.size)
    (body : ∀ p e s m below meth c T, Here p l e rm s m as below meth c Z y.cls y.name bs ml rt n0 T h 0 0 → Run p e below (Fnl s n0 kc ks Q) T (mkF m 0 ls [])) : Con l Z y bs ml rt rm as h n0 kc ks Q := by
  intro ws
  refine MetFree.of_bodySF hp hisR ?_
  intro p e s m args below meth c s₁ Bd hml0 hP hK
  obtain ⟨rfl, hZ, hh⟩ := hP
  have e0 : s₁.heap = h := by rw [← hh, Bd.state]; rfl
  obtain ⟨s₂, o, q, r⟩ := body p e s m below meth c s₁ ⟨⟨Bd.exec, Bd.bytes, hml0, hZ, findClass_of_methodNamed Bd.named, (name_of_methodNamed Bd.named Bd.method).1, Bd.returns, Bd.notSynchronized⟩, Z0, e0, [], Stand.of_body Bd, Fr.nil n0⟩
  exact ⟨s₂, o, castTop (hef m) q, r⟩
/-- the end of a body that may intern -/
def FnlW (s : State) (n0 kc ks : Nat) (Z : State) (EL : List (String × Nat)) (Q : Option Value → Heap → Prop) (o : Outcome) (s₂ : State) : Prop := ∃ v L, o = .returned v ∧ (Q v s₂.heap ∧ n0 ≤ s₂.heap.size ∧ Fr n0 L) ∧ CHr Z EL s.vm s.heap s₂.vm s₂.heap ∧ ReturnedEndW s o s₂ L kc ks
def ConW (l : Launch) (Z : State) (y : MethodName) (bs : ByteArray) (ml : Nat) (rt : Option FieldType) (rm : Room) (as : Array Value) (h0 : Heap) (n0 kc ks : Nat) (EL : List (String × Nat)) (Q : Option Value → Heap → Prop) : Prop :=
  ∀ ws, MetFree l y (head1 (Jvm.Cond.code y bs ml rt :: ws) rm) (fun a U => a = as ∧ Z.Warmed39 U.vm ∧ U.heap = h0 ∧ CHv Z EL U.vm h0) (fun _ _ _ _ _ => True) (fun _ U o U' => ∃ v L, o = .returned v ∧ (Q v U'.heap ∧ n0 ≤ U'.heap.size ∧ Fr n0 L) ∧ CHr Z EL U.vm U.heap U'.vm U'.heap ∧ ReturnedEndW U o U' L kc ks)
/-- what a walk that may have interned knows besides -/
def Wid (s : State) (Z : State) (EL : List (String × Nat)) (vm0 : Vm) (h : Heap) : Prop := ∃ k0, s.Since vm0 k0 ∧ k0 ≤ h.size ∧ CHr Z EL s.vm s.heap vm0 h
theorem ConW.of_body {y : MethodName} {rm : Room} {as : Array Value} (hp : plainName y.cls = true) (hef : ∀ m, entryFrame m as ml = mkF m 0 ls []) (Z0 : n0 ≤ h.size)
    (body : ∀ p e s m below meth c T, Wid s Z EL s.vm h → Here p l e rm (s.setVm s.vm) m as below meth c Z y.cls y.name bs ml rt n0 T h 0 0 → Run p e below (FnlW s n0 kc ks Z EL Q) T (mkF m 0 ls [])) : ConW l Z y bs ml rt rm as h n0 kc ks EL Q := by
  intro ws
  refine MetFree.of_bodySF (plainFor_of_name hp) hisR ?_
  intro p e s m args below meth c s₁ Bd hml0 hP hK
  obtain ⟨rfl, hZ, hh, hC⟩ := hP
  have e0 : s₁.heap = h := by rw [← hh, Bd.state]; rfl
  obtain ⟨s₂, o, q, r⟩ := body p e s m below meth c s₁ ⟨0, (State.WarmedH.refl s).since 0, Nat.zero_le _, by rw [hh]; exact CHr.refl hC⟩ (by
    rw [State.setVm_self]
    exact ⟨⟨Bd.exec, Bd.bytes, hml0, hZ, findClass_of_methodNamed Bd.named, (name_of_methodNamed Bd.named Bd.method).1, Bd.returns, Bd.notSynchronized⟩, Z0, e0, [], Stand.of_body Bd, Fr.nil n0⟩)
  exact ⟨s₂, o, castTop (hef m) q, r⟩
theorem r_getstatic (X : Here p l e R s m args below meth c Z own nm bs ml rt n0 T h k n) {R0 f d : String} {i : Nat} {v : Value} (hd : decode bs pc = .ok (.getstatic i, 3)) (w : (Jvm.Cond.fieldLink own i R0 f d).before a0 Z = true) (Ff : Sta Z h R0 f d v) (hp : pc + 3 = pc') (r : ∀ T', Here p l e R s m args below meth c Z own nm bs ml rt n0 T' h k n → Run p e below F T' (mkF m pc' ls (v :: st))) : Run p e below F T (mkF m pc ls st) := by
  obtain ⟨⟨hx, hby, hml, hZ, hown, hnm, hret, hlk⟩, hs0, eT, locs, S, N⟩ := X
  subst hp
  obtain ⟨T', X', e', st'⟩ := getS (host := "") S hx hZ hown w Via.refl eT Ff (g := mkF m pc ls st) rfl (hb hby hd)
  exact Run.of (fun t q => st' t q) (r T' ⟨⟨hx, hby, hml, hZ, hown, hnm, hret, hlk⟩, hs0, e', _, X', N⟩)
theorem r_ldcS (X : Here p l e R (s.setVm vm0) m args below meth c Z own nm bs ml rt n0 T h k n) (Wd : Wid s Z EL vm0 h) {i : Nat} {text : String} (hd : decode bs pc = .ok (.ldc i, 2)) (w : (Jvm.Cond.stringLink own i text).before a0 Z = true) (wS : ∀ a ∈ Bundle.stringAtoms, a.before a0 Z = true) (hEL : EW Z a0 EL) (hmem : (own, i) ∈ EL)
    {us : List Int32} {N : Nat} (ht : (∀ c ∈ text.toList, c.toNat < 256) ∧ text.toList.map (fun c => Value.int (Jvm.Lit.byteI c.toNat.toUInt16)) = us.map Value.int) (hN : us.length = N) (hN31 : N < 2 ^ 31) {nn : Nat} (hn : 4 * text.toList.length ≤ nn) (hbig : nn ≤ 536870912) (hc : k + 2 ≤ R.cells) (hl : n + (nn + 4) ≤ R.slots) (hp : pc + 2 = pc')
    (r : ∀ a b vm1 T' h', Here p l e R (s.setVm vm1) m args below meth c Z own nm bs ml rt n0 T' h' (k + 2) (n + (nn + 4)) → Wid s Z EL vm1 h' → Ext h h' → Exa Z h' a "java/lang/String" → Fld Z h' a "java/lang/String" "coder" "B" (.int 0) → Fld Z h' a "java/lang/String" "value" "[B" (.ref b) → Arf Z h' b .byte N (fun j => us.getD j 0) → Run p e below F T' (mkF m pc' ls (.ref a :: st))) : Run p e below F T (mkF m pc ls st) := by
  obtain ⟨⟨hx, hby, hml, hZ, hown, hnm, hret, hlk⟩, hs0, eT, locs, S, N_⟩ := X
  obtain ⟨k1, hS, hk, hC⟩ := Wd
  subst hp
  have e31 : (Nat.toInt32 N).toInt = N := len_toInt hN31
  have hz : ¬ (Nat.toInt32 N) < 0 := by
    rw [Int32.lt_iff_toInt_lt, e31]
    have e0 : (0 : Int32).toInt = 0 := rfl
    omega
  have hzl : (Nat.toInt32 N).toNatClampNeg = N := ix_clamp e31
  obtain ⟨a, T', h', k2, b, kk, X', e', E, hS', hk', hW', hf', Ea, Fc, Fv, V, -, -, hC', -, -, st'⟩ := ldcCH (z := Nat.toInt32 N) S hx hZ hown w wS eT hS hk hEL hmem hC.1 ht hz (by rw [hzl, List.length_map, hN]) (g := mkF m pc ls st) rfl (hb hby hd) hn hbig hc hl
  have A : Arf Z h' b .byte N (fun j => us.getD j 0) := by
    obtain ⟨cl, A, -, S', -, H, -⟩ := V
    refine ⟨cl, A, by rw [S', hzl], fun j hj => ?_⟩
    have := H j (by rw [S', hzl]; exact hj)
    rw [this]
    simp only [List.getD_eq_getElem?_getD, List.getElem?_map]
    cases us[j]? <;> rfl
  exact Run.of (fun t q => st' t q) (r a b T'.vm T' h' ⟨⟨hx, hby, hml, hW', hf', hnm, hret, hlk⟩, Nat.le_trans hs0 E.1, e', _, X', N_⟩ ⟨k2, hS', hk', hC.trans hC'⟩ E Ea Fc Fv A)
theorem Wid.move {h' : Heap} (Wd : Wid s Z EL vm0 h) (e : h = h') : Wid s Z EL vm0 h' := e ▸ Wd
theorem r_retNW {ft : FieldType} (X : Here p l e R (s.setVm vm0) m args below meth c Z own nm bs ml (some ft) n0 T h k n) (Wd : Wid s Z EL vm0 h) (hEL : EW Z a0 EL) (ht : ft = .boolean ∨ ft = .byte ∨ ft = .char ∨ ft = .short) (hd : decode bs pc = .ok (.ireturn, 1)) {z w : Int32} (hz : nar ft z = w) (hQ : Q (some (.int w)) h) (hk : k ≤ kc) (hn : n ≤ ks) : Run p e below (FnlW s n0 kc ks Z EL Q) T (mkF m pc ls (.int z :: st)) := by
  obtain ⟨⟨hx, hby, hml, hZ, hown, hnm, hret, hlk⟩, hs0, eT, locs, S, N⟩ := X
  obtain ⟨k1, hS, hk1, hC⟩ := Wd
  subst hz
  obtain ⟨fs, hr, hrun, hended, hW⟩ := S.leaveW hS (by rw [eT]; exact hk1) (v := some (.int (nar ft z))) (fun w => by rw [hret] at w; cases w)
  refine ⟨_, _, retN S hx hret ht (hb hby hd) hr, hrun, hended, _, locs, rfl, ⟨?_, ?_, N⟩, ?_, ⟨hW.1, hW.2.1, hW.2.2.1, hW.2.2.2.mono hk hn⟩⟩
  · show Q _ T.heap
    rw [eT]; exact hQ
  · show n0 ≤ T.heap.size
    rw [eT]; exact hs0
  · show CHr Z EL s.vm s.heap T.vm T.heap
    rw [eT]; exact hC.trans (CHv.at S hZ hEL hC.1)
theorem r_callSW (X : Here p l e R (s.setVm vm0) m args below meth c Z own nm bs ml rt n0 T h k n) (Wd : Wid s Z EL vm0 h) (hEL : EW Z a0 EL) {y : MethodName} {i : Nat} {bs' : ByteArray} {ml' : Nat} {rt' : Option FieldType} {rm : Room} {Q' : Option Value → Heap → Prop} {ps : List FieldType} {rr : Option FieldType} {argsL rest : List Value} {W : Nat} (hd : decode bs pc = .ok (.invokestatic i, 3)) (C : ConW l Z y bs' ml' rt' rm argsL.toArray h n0 rm.cells rm.slots EL Q')
    (w1 : (Jvm.Cond.methodLink own i y).before a0 Z = true) (w2 : (Jvm.Cond.static y).before a0 Z = true) (w3 : (Jvm.Cond.initialized y.cls).before a0 Z = true) (w4 : (Jvm.Cond.code y bs' ml' rt').before a0 Z = true) (hy : y.cls ≠ "java/lang/invoke/MethodHandle" ∧ y.cls ≠ "java/lang/invoke/VarHandle") (hst : st = argsL.reverse ++ rest) (hsz : ls.size = ml) (hpd : parseMethodDescriptor y.desc = some ⟨ps, rr⟩) (hlen : argsL.length = ps.length) (hW : (rest.map fun v => v.category).sum = W) (hf : rm.frames + 1 ≤ R.frames) (hl : W + (ml' + 11) + rm.locals ≤ R.locals) (hc : k + rm.cells ≤ R.cells) (hs : n + rm.slots ≤ R.slots) (hp : pc + 3 = pc')
    (r : ∀ v vm1 T' h', Here p l e R (s.setVm vm1) m args below meth c Z own nm bs ml rt n0 T' h' (k + rm.cells) (n + rm.slots) → Wid s Z EL vm1 h' → Q' v h' → Run p e below F T' (mkF m pc' ls (v.toList ++ rest))) : Run p e below F T (mkF m pc ls st) := by
  obtain ⟨⟨hx, hby, hml, hZ, hown, hnm, hret, hlk⟩, hs0, eT, locs, S, N⟩ := X
  obtain ⟨k1, hS, hk1, hC⟩ := Wd
  subst hp hst
  obtain ⟨v, _, B, -, X', h2, g2, ⟨L, hQ, l1, l2, l3, hC'⟩, st'⟩ := callSS S hx (y := y) hown (mvT hZ w1) (mvT hZ w2) (mvT hZ w3) (mvT hZ w4) hy (backOfSH (s := s) (vm0 := vm0) (W := W) (Q := fun v hh L => Q' v hh ∧ n0 ≤ hh.size ∧ Fr n0 L) (C []) hZ w4 w3 hf hl hEL hC.1) (g := mkF m pc ls (argsL.reverse ++ rest)) rfl (by rw [hml]; exact hsz) (argsL := argsL) (rest := rest) (lenOf hpd hlen) rfl (by show 2 * 0 + _ ≤ _; rw [hW]; omega) (hb hby hd) (fun _ _ => ⟨rfl, eT, hc, hs⟩)
  obtain ⟨hQ, hs1, hF⟩ := hQ
  obtain ⟨X2, hS2, hZ2, hown2⟩ := rebS hS hk1 X' h2 (by rw [← eT]; exact g2) hZ hown
  exact Run.of (fun t q => st'.trans q) (r v B.U.vm B.U B.U.heap ⟨⟨hx, hby, hml, hZ2, hown2, hnm, hret, hlk⟩, hs1, rfl, B.locs, by rw [l2, l3] at X2; exact X2, by rw [l1]; exact Fr.app N hF⟩ ⟨_, hS2, Nat.le_refl _, hC.trans hC'⟩ hQ)
end OwnW
def own_b (x : Int32) : Int32 := x.toInt8.toInt32
theorem own_bi (x : Int32) : (own_b x).toInt = (x.toInt + 128) % 256 - 128 := n_i2b x
def own_us : List Int32 := [33, 35, 36, 37, 38, 39, 42, 43, 45, 46, 94, 95, 96, 124, 126]
def own_f : Nat → Int32 := fun j => own_us.getD j 0
theorem own_ex (x : Int) : (∃ j, j < 15 ∧ (own_f j).toInt = x) ↔ (x = 33 ∨ x = 35 ∨ x = 36 ∨ x = 37 ∨ x = 38 ∨ x = 39 ∨ x = 42 ∨ x = 43 ∨ x = 45 ∨ x = 46 ∨ x = 94 ∨ x = 95 ∨ x = 96 ∨ x = 124 ∨ x = 126) := by
  constructor
  · rintro ⟨j, hj, rfl⟩
    have t : ∀ k : Fin 15, ((own_f k.val).toInt = 33 ∨ (own_f k.val).toInt = 35 ∨ (own_f k.val).toInt = 36 ∨ (own_f k.val).toInt = 37 ∨ (own_f k.val).toInt = 38 ∨ (own_f k.val).toInt = 39 ∨ (own_f k.val).toInt = 42 ∨ (own_f k.val).toInt = 43 ∨ (own_f k.val).toInt = 45 ∨ (own_f k.val).toInt = 46 ∨ (own_f k.val).toInt = 94 ∨ (own_f k.val).toInt = 95 ∨ (own_f k.val).toInt = 96 ∨ (own_f k.val).toInt = 124 ∨ (own_f k.val).toInt = 126) := by decide +kernel
    exact t ⟨j, hj⟩
  · rintro (rfl | rfl | rfl | rfl | rfl | rfl | rfl | rfl | rfl | rfl | rfl | rfl | rfl | rfl | rfl)
    · exact ⟨0, by decide, rfl⟩
    · exact ⟨1, by decide, rfl⟩
    · exact ⟨2, by decide, rfl⟩
    · exact ⟨3, by decide, rfl⟩
    · exact ⟨4, by decide, rfl⟩
    · exact ⟨5, by decide, rfl⟩
    · exact ⟨6, by decide, rfl⟩
    · exact ⟨7, by decide, rfl⟩
    · exact ⟨8, by decide, rfl⟩
    · exact ⟨9, by decide, rfl⟩
    · exact ⟨10, by decide, rfl⟩
    · exact ⟨11, by decide, rfl⟩
    · exact ⟨12, by decide, rfl⟩
    · exact ⟨13, by decide, rfl⟩
    · exact ⟨14, by decide, rfl⟩
theorem own_atoms {Z : State} {a0 : Array Value} (hw : ∀ d ∈ tables_1, d.before a0 Z = true) : ∀ a ∈ Bundle.stringAtoms, a.before a0 Z = true := fun d hd => by
  simp only [Bundle.stringAtoms, List.mem_cons, List.not_mem_nil, or_false] at hd
  rcases hd with rfl | rfl | rfl | rfl | rfl | rfl | rfl
  · exact wd hw 6 rfl
  · exact wd hw 7 rfl
  · exact wd hw 8 rfl
  · exact wd hw 9 rfl
  · exact wd hw 10 rfl
  · exact wd hw 11 rfl
  · exact wd hw 12 rfl
theorem own_EW {Z : State} {a0 : Array Value} (hw : ∀ d ∈ tables_1, d.before a0 Z = true) : EW Z a0 consts_1 := EW.cons (wd hw 5 rfl) (by decide) EW.nil
theorem pn_java_lang_StringLatin1 : plainName "java/lang/StringLatin1" = true := by first | (simp [plainName, overriddenIn]; done) | decide +kernel
theorem d_canEncode_0 : decode jdk_43_method_4_code 0 = .ok (.iload_n 0, 1) := by decide +kernel
theorem d_canEncode_1 : decode jdk_43_method_4_code 1 = .ok (.ifCond .lt 14, 3) := by decide +kernel
theorem d_canEncode_15 : decode jdk_43_method_4_code 15 = .ok (.iconst 0, 1) := by decide +kernel
theorem d_canEncode_16 : decode jdk_43_method_4_code 16 = .ok (.ireturn, 1) := by decide +kernel
theorem d_canEncode_4 : decode jdk_43_method_4_code 4 = .ok (.iload_n 0, 1) := by decide +kernel
theorem d_canEncode_5 : decode jdk_43_method_4_code 5 = .ok (.sipush 255, 3) := by decide +kernel
theorem d_canEncode_8 : decode jdk_43_method_4_code 8 = .ok (.if_icmp .gt 7, 3) := by decide +kernel
theorem d_canEncode_11 : decode jdk_43_method_4_code 11 = .ok (.iconst 1, 1) := by decide +kernel
theorem d_canEncode_12 : decode jdk_43_method_4_code 12 = .ok (.goto 4, 3) := by decide +kernel
theorem d_max_0 : decode jdk_29_method_65_code 0 = .ok (.iload_n 0, 1) := by decide +kernel
theorem d_max_1 : decode jdk_29_method_65_code 1 = .ok (.iload_n 1, 1) := by decide +kernel
theorem d_max_2 : decode jdk_29_method_65_code 2 = .ok (.if_icmp .lt 7, 3) := by decide +kernel
theorem d_max_9 : decode jdk_29_method_65_code 9 = .ok (.iload_n 1, 1) := by decide +kernel
theorem d_max_10 : decode jdk_29_method_65_code 10 = .ok (.ireturn, 1) := by decide +kernel
theorem d_max_5 : decode jdk_29_method_65_code 5 = .ok (.iload_n 0, 1) := by decide +kernel
theorem d_max_6 : decode jdk_29_method_65_code 6 = .ok (.goto 4, 3) := by decide +kernel
theorem d_min_0 : decode jdk_29_method_69_code 0 = .ok (.iload_n 0, 1) := by decide +kernel
theorem d_min_1 : decode jdk_29_method_69_code 1 = .ok (.iload_n 1, 1) := by decide +kernel
theorem d_min_2 : decode jdk_29_method_69_code 2 = .ok (.if_icmp .gt 7, 3) := by decide +kernel
theorem d_min_9 : decode jdk_29_method_69_code 9 = .ok (.iload_n 1, 1) := by decide +kernel
theorem d_min_10 : decode jdk_29_method_69_code 10 = .ok (.ireturn, 1) := by decide +kernel
theorem d_min_5 : decode jdk_29_method_69_code 5 = .ok (.iload_n 0, 1) := by decide +kernel
theorem d_min_6 : decode jdk_29_method_69_code 6 = .ok (.goto 4, 3) := by decide +kernel
theorem pf_max : plainFor (⟨"java/lang/Math", "max", "(II)I"⟩ : MethodName) = true := by decide +kernel
theorem pf_min : plainFor (⟨"java/lang/Math", "min", "(II)I"⟩ : MethodName) = true := by decide +kernel
theorem d_indexOfChar_7 : decode jdk_43_method_23_code 7 = .ok (.iload 5, 2) := by decide +kernel
theorem d_indexOfChar_9 : decode jdk_43_method_23_code 9 = .ok (.iload_n 3, 1) := by decide +kernel
theorem d_indexOfChar_10 : decode jdk_43_method_23_code 10 = .ok (.if_icmp .ge 21, 3) := by decide +kernel
theorem d_indexOfChar_31 : decode jdk_43_method_23_code 31 = .ok (.iconst (-1), 1) := by decide +kernel
theorem d_indexOfChar_32 : decode jdk_43_method_23_code 32 = .ok (.ireturn, 1) := by decide +kernel
theorem d_indexOfChar_13 : decode jdk_43_method_23_code 13 = .ok (.aload_n 0, 1) := by decide +kernel
theorem d_indexOfChar_14 : decode jdk_43_method_23_code 14 = .ok (.iload 5, 2) := by decide +kernel
theorem d_indexOfChar_16 : decode jdk_43_method_23_code 16 = .ok (.baload, 1) := by decide +kernel
theorem d_indexOfChar_17 : decode jdk_43_method_23_code 17 = .ok (.iload 4, 2) := by decide +kernel
theorem d_indexOfChar_19 : decode jdk_43_method_23_code 19 = .ok (.if_icmp .ne 6, 3) := by decide +kernel
theorem d_indexOfChar_25 : decode jdk_43_method_23_code 25 = .ok (.iinc 5 1, 3) := by decide +kernel
theorem d_indexOfChar_28 : decode jdk_43_method_23_code 28 = .ok (.goto (-21), 3) := by decide +kernel
theorem d_indexOfChar_22 : decode jdk_43_method_23_code 22 = .ok (.iload 5, 2) := by decide +kernel
theorem d_indexOfChar_24 : decode jdk_43_method_23_code 24 = .ok (.ireturn, 1) := by decide +kernel
theorem d_indexOfChar_0 : decode jdk_43_method_23_code 0 = .ok (.iload_n 1, 1) := by decide +kernel
theorem d_indexOfChar_1 : decode jdk_43_method_23_code 1 = .ok (.i2b, 1) := by decide +kernel
theorem d_indexOfChar_2 : decode jdk_43_method_23_code 2 = .ok (.istore 4, 2) := by decide +kernel
theorem d_indexOfChar_4 : decode jdk_43_method_23_code 4 = .ok (.iload_n 2, 1) := by decide +kernel
theorem d_indexOfChar_5 : decode jdk_43_method_23_code 5 = .ok (.istore 5, 2) := by decide +kernel
theorem d_indexOf___0 : decode jdk_43_method_22_code 0 = .ok (.iload_n 1, 1) := by decide +kernel
theorem pd_canEncode : parseMethodDescriptor "(I)Z" = some ⟨[.int], (some .boolean)⟩ := by decide +kernel
theorem d_indexOf___1 : decode jdk_43_method_22_code 1 = .ok (.invokestatic 88, 3) := by decide +kernel
theorem d_indexOf___4 : decode jdk_43_method_22_code 4 = .ok (.ifCond .ne 5, 3) := by decide +kernel
theorem d_indexOf___9 : decode jdk_43_method_22_code 9 = .ok (.iload_n 2, 1) := by decide +kernel
theorem d_indexOf___10 : decode jdk_43_method_22_code 10 = .ok (.iconst 0, 1) := by decide +kernel
theorem pd_max : parseMethodDescriptor "(II)I" = some ⟨[.int, .int], (some .int)⟩ := by decide +kernel
theorem d_indexOf___11 : decode jdk_43_method_22_code 11 = .ok (.invokestatic 92, 3) := by decide +kernel
theorem d_indexOf___14 : decode jdk_43_method_22_code 14 = .ok (.istore_n 2, 1) := by decide +kernel
theorem d_indexOf___15 : decode jdk_43_method_22_code 15 = .ok (.iload_n 3, 1) := by decide +kernel
theorem d_indexOf___16 : decode jdk_43_method_22_code 16 = .ok (.aload_n 0, 1) := by decide +kernel
theorem d_indexOf___17 : decode jdk_43_method_22_code 17 = .ok (.arraylength, 1) := by decide +kernel
theorem pd_min : parseMethodDescriptor "(II)I" = some ⟨[.int, .int], (some .int)⟩ := by decide +kernel
theorem d_indexOf___18 : decode jdk_43_method_22_code 18 = .ok (.invokestatic 38, 3) := by decide +kernel
theorem d_indexOf___21 : decode jdk_43_method_22_code 21 = .ok (.istore_n 3, 1) := by decide +kernel
theorem d_indexOf___22 : decode jdk_43_method_22_code 22 = .ok (.iload_n 2, 1) := by decide +kernel
theorem d_indexOf___23 : decode jdk_43_method_22_code 23 = .ok (.iload_n 3, 1) := by decide +kernel
theorem d_indexOf___24 : decode jdk_43_method_22_code 24 = .ok (.if_icmp .lt 5, 3) := by decide +kernel
theorem d_indexOf___29 : decode jdk_43_method_22_code 29 = .ok (.aload_n 0, 1) := by decide +kernel
theorem d_indexOf___30 : decode jdk_43_method_22_code 30 = .ok (.iload_n 1, 1) := by decide +kernel
theorem d_indexOf___31 : decode jdk_43_method_22_code 31 = .ok (.iload_n 2, 1) := by decide +kernel
theorem d_indexOf___32 : decode jdk_43_method_22_code 32 = .ok (.iload_n 3, 1) := by decide +kernel
theorem pd_indexOfChar : parseMethodDescriptor "([BIII)I" = some ⟨[.array (.byte), .int, .int, .int], (some .int)⟩ := by decide +kernel
theorem d_indexOf___33 : decode jdk_43_method_22_code 33 = .ok (.invokestatic 95, 3) := by decide +kernel
theorem d_indexOf___36 : decode jdk_43_method_22_code 36 = .ok (.ireturn, 1) := by decide +kernel
theorem d_indexOf___7 : decode jdk_43_method_22_code 7 = .ok (.iconst (-1), 1) := by decide +kernel
theorem d_indexOf___8 : decode jdk_43_method_22_code 8 = .ok (.ireturn, 1) := by decide +kernel
theorem pn_java_lang_String : plainName "java/lang/String" = true := by first | (simp [plainName, overriddenIn]; done) | decide +kernel
theorem d_coder_0 : decode jdk_42_method_152_code 0 = .ok (.getstatic 38, 3) := by decide +kernel
theorem d_coder_3 : decode jdk_42_method_152_code 3 = .ok (.ifCond .eq 10, 3) := by decide +kernel
theorem d_coder_6 : decode jdk_42_method_152_code 6 = .ok (.aload_n 0, 1) := by decide +kernel
theorem d_coder_7 : decode jdk_42_method_152_code 7 = .ok (.getfield 15, 3) := by decide +kernel
theorem d_coder_10 : decode jdk_42_method_152_code 10 = .ok (.goto 4, 3) := by decide +kernel
theorem d_coder_14 : decode jdk_42_method_152_code 14 = .ok (.ireturn, 1) := by decide +kernel
theorem d_isLatin1_0 : decode jdk_42_method_154_code 0 = .ok (.getstatic 38, 3) := by decide +kernel
theorem d_isLatin1_3 : decode jdk_42_method_154_code 3 = .ok (.ifCond .eq 14, 3) := by decide +kernel
theorem d_isLatin1_6 : decode jdk_42_method_154_code 6 = .ok (.aload_n 0, 1) := by decide +kernel
theorem d_isLatin1_7 : decode jdk_42_method_154_code 7 = .ok (.getfield 15, 3) := by decide +kernel
theorem d_isLatin1_10 : decode jdk_42_method_154_code 10 = .ok (.ifCond .ne 7, 3) := by decide +kernel
theorem d_isLatin1_13 : decode jdk_42_method_154_code 13 = .ok (.iconst 1, 1) := by decide +kernel
theorem d_isLatin1_14 : decode jdk_42_method_154_code 14 = .ok (.goto 4, 3) := by decide +kernel
theorem d_isLatin1_18 : decode jdk_42_method_154_code 18 = .ok (.ireturn, 1) := by decide +kernel
theorem d_length_0 : decode jdk_42_method_54_code 0 = .ok (.aload_n 0, 1) := by decide +kernel
theorem d_length_1 : decode jdk_42_method_54_code 1 = .ok (.getfield 9, 3) := by decide +kernel
theorem d_length_4 : decode jdk_42_method_54_code 4 = .ok (.arraylength, 1) := by decide +kernel
theorem d_length_5 : decode jdk_42_method_54_code 5 = .ok (.aload_n 0, 1) := by decide +kernel
theorem pd_coder : parseMethodDescriptor "()B" = some ⟨[], (some .byte)⟩ := by decide +kernel
theorem d_length_6 : decode jdk_42_method_54_code 6 = .ok (.invokevirtual 335, 3) := by decide +kernel
theorem d_length_9 : decode jdk_42_method_54_code 9 = .ok (.ishr, 1) := by decide +kernel
theorem d_length_10 : decode jdk_42_method_54_code 10 = .ok (.ireturn, 1) := by decide +kernel
theorem d_indexOf__0 : decode jdk_42_method_80_code 0 = .ok (.aload_n 0, 1) := by decide +kernel
theorem pd_isLatin1 : parseMethodDescriptor "()Z" = some ⟨[], (some .boolean)⟩ := by decide +kernel
theorem d_indexOf__1 : decode jdk_42_method_80_code 1 = .ok (.invokevirtual 492, 3) := by decide +kernel
theorem d_indexOf__4 : decode jdk_42_method_80_code 4 = .ok (.ifCond .eq 19, 3) := by decide +kernel
theorem d_indexOf__7 : decode jdk_42_method_80_code 7 = .ok (.aload_n 0, 1) := by decide +kernel
theorem d_indexOf__8 : decode jdk_42_method_80_code 8 = .ok (.getfield 9, 3) := by decide +kernel
theorem d_indexOf__11 : decode jdk_42_method_80_code 11 = .ok (.iload_n 1, 1) := by decide +kernel
theorem d_indexOf__12 : decode jdk_42_method_80_code 12 = .ok (.iload_n 2, 1) := by decide +kernel
theorem d_indexOf__13 : decode jdk_42_method_80_code 13 = .ok (.aload_n 0, 1) := by decide +kernel
theorem pd_length : parseMethodDescriptor "()I" = some ⟨[], (some .int)⟩ := by decide +kernel
theorem d_indexOf__14 : decode jdk_42_method_80_code 14 = .ok (.invokevirtual 505, 3) := by decide +kernel
theorem pd_indexOf__ : parseMethodDescriptor "([BIII)I" = some ⟨[.array (.byte), .int, .int, .int], (some .int)⟩ := by decide +kernel
theorem d_indexOf__17 : decode jdk_42_method_80_code 17 = .ok (.invokestatic 637, 3) := by decide +kernel
theorem d_indexOf__20 : decode jdk_42_method_80_code 20 = .ok (.goto 16, 3) := by decide +kernel
theorem d_indexOf__36 : decode jdk_42_method_80_code 36 = .ok (.ireturn, 1) := by decide +kernel
theorem d_indexOf_0 : decode jdk_42_method_79_code 0 = .ok (.aload_n 0, 1) := by decide +kernel
theorem d_indexOf_1 : decode jdk_42_method_79_code 1 = .ok (.iload_n 1, 1) := by decide +kernel
theorem d_indexOf_2 : decode jdk_42_method_79_code 2 = .ok (.iconst 0, 1) := by decide +kernel
theorem pd_indexOf_ : parseMethodDescriptor "(II)I" = some ⟨[.int, .int], (some .int)⟩ := by decide +kernel
theorem d_indexOf_3 : decode jdk_42_method_79_code 3 = .ok (.invokevirtual 633, 3) := by decide +kernel
theorem d_indexOf_6 : decode jdk_42_method_79_code 6 = .ok (.ireturn, 1) := by decide +kernel
theorem pn_com_example_nestful_nestful_header_FieldText : plainName "com/example/nestful/nestful/header/FieldText" = true := by first | (simp [plainName, overriddenIn]; done) | decide +kernel
theorem d_isTokenChar_0 : decode prog_17_method_2_code 0 = .ok (.iload_n 0, 1) := by decide +kernel
theorem d_isTokenChar_1 : decode prog_17_method_2_code 1 = .ok (.bipush 97, 2) := by decide +kernel
theorem d_isTokenChar_3 : decode prog_17_method_2_code 3 = .ok (.if_icmp .lt 9, 3) := by decide +kernel
theorem d_isTokenChar_12 : decode prog_17_method_2_code 12 = .ok (.iload_n 0, 1) := by decide +kernel
theorem d_isTokenChar_13 : decode prog_17_method_2_code 13 = .ok (.bipush 65, 2) := by decide +kernel
theorem d_isTokenChar_15 : decode prog_17_method_2_code 15 = .ok (.if_icmp .lt 9, 3) := by decide +kernel
theorem d_isTokenChar_24 : decode prog_17_method_2_code 24 = .ok (.iload_n 0, 1) := by decide +kernel
theorem d_isTokenChar_25 : decode prog_17_method_2_code 25 = .ok (.bipush 48, 2) := by decide +kernel
theorem d_isTokenChar_27 : decode prog_17_method_2_code 27 = .ok (.if_icmp .lt 9, 3) := by decide +kernel
theorem d_isTokenChar_36 : decode prog_17_method_2_code 36 = .ok (.ldc 7, 2) := by decide +kernel
theorem d_isTokenChar_38 : decode prog_17_method_2_code 38 = .ok (.iload_n 0, 1) := by decide +kernel
theorem pd_indexOf : parseMethodDescriptor "(I)I" = some ⟨[.int], (some .int)⟩ := by decide +kernel
theorem d_isTokenChar_39 : decode prog_17_method_2_code 39 = .ok (.invokevirtual 9, 3) := by decide +kernel
theorem d_isTokenChar_42 : decode prog_17_method_2_code 42 = .ok (.ifCond .lt 7, 3) := by decide +kernel
theorem d_isTokenChar_49 : decode prog_17_method_2_code 49 = .ok (.iconst 0, 1) := by decide +kernel
theorem d_isTokenChar_50 : decode prog_17_method_2_code 50 = .ok (.ireturn, 1) := by decide +kernel
theorem d_isTokenChar_45 : decode prog_17_method_2_code 45 = .ok (.iconst 1, 1) := by decide +kernel
theorem d_isTokenChar_46 : decode prog_17_method_2_code 46 = .ok (.goto 4, 3) := by decide +kernel
theorem d_isTokenChar_30 : decode prog_17_method_2_code 30 = .ok (.iload_n 0, 1) := by decide +kernel
theorem d_isTokenChar_31 : decode prog_17_method_2_code 31 = .ok (.bipush 57, 2) := by decide +kernel
theorem d_isTokenChar_33 : decode prog_17_method_2_code 33 = .ok (.if_icmp .le 12, 3) := by decide +kernel
theorem d_isTokenChar_18 : decode prog_17_method_2_code 18 = .ok (.iload_n 0, 1) := by decide +kernel
theorem d_isTokenChar_19 : decode prog_17_method_2_code 19 = .ok (.bipush 90, 2) := by decide +kernel
theorem d_isTokenChar_21 : decode prog_17_method_2_code 21 = .ok (.if_icmp .le 24, 3) := by decide +kernel
theorem d_isTokenChar_6 : decode prog_17_method_2_code 6 = .ok (.iload_n 0, 1) := by decide +kernel
theorem d_isTokenChar_7 : decode prog_17_method_2_code 7 = .ok (.bipush 122, 2) := by decide +kernel
theorem d_isTokenChar_9 : decode prog_17_method_2_code 9 = .ok (.if_icmp .le 36, 3) := by decide +kernel
theorem pn_com_example_nestful_nestful_header_FieldTextIsTokenCharPinLaw : plainName "com/example/nestful/nestful/header/FieldTextIsTokenCharPinLaw" = true := by first | (simp [plainName, overriddenIn]; done) | decide +kernel
theorem d_delimiter_0 : decode method_2_code 0 = .ok (.iload_n 0, 1) := by decide +kernel
theorem d_delimiter_1 : decode method_2_code 1 = .ok (.bipush 34, 2) := by decide +kernel
theorem d_delimiter_3 : decode method_2_code 3 = .ok (.if_icmp .eq 63, 3) := by decide +kernel
theorem d_delimiter_66 : decode method_2_code 66 = .ok (.iconst 1, 1) := by decide +kernel
theorem d_delimiter_67 : decode method_2_code 67 = .ok (.goto 4, 3) := by decide +kernel
theorem d_delimiter_71 : decode method_2_code 71 = .ok (.ireturn, 1) := by decide +kernel
theorem d_delimiter_6 : decode method_2_code 6 = .ok (.iload_n 0, 1) := by decide +kernel
theorem d_delimiter_7 : decode method_2_code 7 = .ok (.bipush 40, 2) := by decide +kernel
theorem d_delimiter_9 : decode method_2_code 9 = .ok (.if_icmp .eq 57, 3) := by decide +kernel
theorem d_delimiter_12 : decode method_2_code 12 = .ok (.iload_n 0, 1) := by decide +kernel
theorem d_delimiter_13 : decode method_2_code 13 = .ok (.bipush 41, 2) := by decide +kernel
theorem d_delimiter_15 : decode method_2_code 15 = .ok (.if_icmp .eq 51, 3) := by decide +kernel
theorem d_delimiter_18 : decode method_2_code 18 = .ok (.iload_n 0, 1) := by decide +kernel
theorem d_delimiter_19 : decode method_2_code 19 = .ok (.bipush 44, 2) := by decide +kernel
theorem d_delimiter_21 : decode method_2_code 21 = .ok (.if_icmp .eq 45, 3) := by decide +kernel
theorem d_delimiter_24 : decode method_2_code 24 = .ok (.iload_n 0, 1) := by decide +kernel
theorem d_delimiter_25 : decode method_2_code 25 = .ok (.bipush 47, 2) := by decide +kernel
theorem d_delimiter_27 : decode method_2_code 27 = .ok (.if_icmp .eq 39, 3) := by decide +kernel
theorem d_delimiter_30 : decode method_2_code 30 = .ok (.iload_n 0, 1) := by decide +kernel
theorem d_delimiter_31 : decode method_2_code 31 = .ok (.bipush 58, 2) := by decide +kernel
theorem d_delimiter_33 : decode method_2_code 33 = .ok (.if_icmp .lt 9, 3) := by decide +kernel
theorem d_delimiter_42 : decode method_2_code 42 = .ok (.iload_n 0, 1) := by decide +kernel
theorem d_delimiter_43 : decode method_2_code 43 = .ok (.bipush 91, 2) := by decide +kernel
theorem d_delimiter_45 : decode method_2_code 45 = .ok (.if_icmp .lt 9, 3) := by decide +kernel
theorem d_delimiter_54 : decode method_2_code 54 = .ok (.iload_n 0, 1) := by decide +kernel
theorem d_delimiter_55 : decode method_2_code 55 = .ok (.bipush 123, 2) := by decide +kernel
theorem d_delimiter_57 : decode method_2_code 57 = .ok (.if_icmp .eq 9, 3) := by decide +kernel
theorem d_delimiter_60 : decode method_2_code 60 = .ok (.iload_n 0, 1) := by decide +kernel
theorem d_delimiter_61 : decode method_2_code 61 = .ok (.bipush 125, 2) := by decide +kernel
theorem d_delimiter_63 : decode method_2_code 63 = .ok (.if_icmp .ne 7, 3) := by decide +kernel
theorem d_delimiter_70 : decode method_2_code 70 = .ok (.iconst 0, 1) := by decide +kernel
theorem d_delimiter_48 : decode method_2_code 48 = .ok (.iload_n 0, 1) := by decide +kernel
theorem d_delimiter_49 : decode method_2_code 49 = .ok (.bipush 93, 2) := by decide +kernel
theorem d_delimiter_51 : decode method_2_code 51 = .ok (.if_icmp .le 15, 3) := by decide +kernel
theorem d_delimiter_36 : decode method_2_code 36 = .ok (.iload_n 0, 1) := by decide +kernel
theorem d_delimiter_37 : decode method_2_code 37 = .ok (.bipush 64, 2) := by decide +kernel
theorem d_delimiter_39 : decode method_2_code 39 = .ok (.if_icmp .le 27, 3) := by decide +kernel
theorem pd_isTokenChar : parseMethodDescriptor "(C)Z" = some ⟨[.char], (some .boolean)⟩ := by decide +kernel
theorem pd_delimiter : parseMethodDescriptor "(I)Z" = some ⟨[.int], (some .boolean)⟩ := by decide +kernel
set_option maxRecDepth 65536 in
set_option maxHeartbeats 40000000 in
theorem con_ce (l : Launch) (Z : State) (a0 : Array Value) (hw : ∀ d ∈ tables_1, d.before a0 Z = true) (p1 : Int32) (h0 : Heap) (n0 : Nat) (Z0 : n0 ≤ h0.size)  : Con l Z (⟨"java/lang/StringLatin1", "canEncode", "(I)Z"⟩ : MethodName) jdk_43_method_4_code 1 (some .boolean) ({ frames := 0, cells := 0, slots := 0, locals := 0 } : Room) #[(.int p1)] h0 n0 0 0 (fun v h => (∃ z : Int32, v = some (.int z) ∧ (z.toInt = 1 ∧ (0 ≤ p1.toInt ∧ p1.toInt ≤ 255) ∨ z.toInt = 0 ∧ ¬ (0 ≤ p1.toInt ∧ p1.toInt ≤ 255))) ∧ h0 = h) := by
  refine Con.of_body (ls := #[.val (.int p1)]) pn_java_lang_StringLatin1 (fun m => by first | (simp [entryFrame, mkF, argsToLocals, Value.category]; done) | rfl) Z0 (fun p e s m below meth c T (X : Here p l e ({ frames := 0, cells := 0, slots := 0, locals := 0 } : Room) s m #[(.int p1)] below meth c Z "java/lang/StringLatin1" "canEncode" jdk_43_method_4_code 1 (some .boolean) n0 T h0 0 0) => ?_)
  refine r_iloadN X (pc' := 1) d_canEncode_0 rfl rfl ?_
  refine r_if X (pc' := 15) (pc2 := 4) d_canEncode_1 (by decide) (by decide) rfl (a := p1.toInt) (b := 0) rfl rfl (fun (cq1 : p1.toInt < 0) => ?_) (fun (cq1 : ¬ (p1.toInt < 0)) => ?_)
  · refine r_iconst X (pc' := 16) (v := (0 : Int32)) d_canEncode_15 rfl rfl ?_
    exact r_retN X (by simp) d_canEncode_16 (z := (0 : Int32)) (w := (0 : Int32)) rfl ⟨⟨_, rfl, Or.inr ⟨rfl, by omega⟩⟩, rfl⟩ (by decide) (by decide)
  · refine r_iloadN X (pc' := 5) d_canEncode_4 rfl rfl ?_
    refine r_sipush X (pc' := 8) (v := (255 : Int32)) d_canEncode_5 rfl rfl ?_
    refine r_icmp X (pc' := 15) (pc2 := 11) d_canEncode_8 (by decide) (by decide) rfl (a := p1.toInt) (b := 255) rfl rfl (fun (cq2 : 255 < p1.toInt) => ?_) (fun (cq2 : ¬ (255 < p1.toInt)) => ?_)
    · refine r_iconst X (pc' := 16) (v := (0 : Int32)) d_canEncode_15 rfl rfl ?_
      exact r_retN X (by simp) d_canEncode_16 (z := (0 : Int32)) (w := (0 : Int32)) rfl ⟨⟨_, rfl, Or.inr ⟨rfl, by omega⟩⟩, rfl⟩ (by decide) (by decide)
    · refine r_iconst X (pc' := 12) (v := (1 : Int32)) d_canEncode_11 rfl rfl ?_
      refine r_goto X (pc' := 16) d_canEncode_12 (by decide) (by decide) ?_
      exact r_retN X (by simp) d_canEncode_16 (z := (1 : Int32)) (w := (1 : Int32)) rfl ⟨⟨_, rfl, Or.inl ⟨rfl, by omega⟩⟩, rfl⟩ (by decide) (by decide)
set_option maxRecDepth 65536 in
set_option maxHeartbeats 40000000 in
theorem con_max (l : Launch) (Z : State) (a0 : Array Value) (hw : ∀ d ∈ tables_1, d.before a0 Z = true) (p1 p2 : Int32) (h0 : Heap) (n0 : Nat) (Z0 : n0 ≤ h0.size)  : Con l Z (⟨"java/lang/Math", "max", "(II)I"⟩ : MethodName) jdk_29_method_65_code 2 (some .int) ({ frames := 0, cells := 0, slots := 0, locals := 0 } : Room) #[(.int p1), (.int p2)] h0 n0 0 0 (fun v h => (∃ z : Int32, v = some (.int z) ∧ (p1.toInt < p2.toInt ∧ z.toInt = p2.toInt ∨ ¬ p1.toInt < p2.toInt ∧ z.toInt = p1.toInt)) ∧ h0 = h) := by
  refine Con.of_bodyF (ls := #[.val (.int p1), .val (.int p2)]) pf_max (fun m => by first | (simp [entryFrame, mkF, argsToLocals, Value.category]; done) | rfl) Z0 (fun p e s m below meth c T (X : Here p l e ({ frames := 0, cells := 0, slots := 0, locals := 0 } : Room) s m #[(.int p1), (.int p2)] below meth c Z "java/lang/Math" "max" jdk_29_method_65_code 2 (some .int) n0 T h0 0 0) => ?_)
  refine r_iloadN X (pc' := 1) d_max_0 rfl rfl ?_
  refine r_iloadN X (pc' := 2) d_max_1 rfl rfl ?_
  refine r_icmp X (pc' := 9) (pc2 := 5) d_max_2 (by decide) (by decide) rfl (a := p1.toInt) (b := p2.toInt) rfl rfl (fun (cq3 : p1.toInt < p2.toInt) => ?_) (fun (cq3 : ¬ (p1.toInt < p2.toInt)) => ?_)
  · refine r_iloadN X (pc' := 10) d_max_9 rfl rfl ?_
    exact r_retI X d_max_10 ⟨⟨_, rfl, by omega⟩, rfl⟩ (by decide) (by decide)
  · refine r_iloadN X (pc' := 6) d_max_5 rfl rfl ?_
    refine r_goto X (pc' := 10) d_max_6 (by decide) (by decide) ?_
    exact r_retI X d_max_10 ⟨⟨_, rfl, by omega⟩, rfl⟩ (by decide) (by decide)
set_option maxRecDepth 65536 in
set_option maxHeartbeats 40000000 in
theorem con_min (l : Launch) (Z : State) (a0 : Array Value) (hw : ∀ d ∈ tables_1, d.before a0 Z = true) (p1 p2 : Int32) (h0 : Heap) (n0 : Nat) (Z0 : n0 ≤ h0.size)  : Con l Z (⟨"java/lang/Math", "min", "(II)I"⟩ : MethodName) jdk_29_method_69_code 2 (some .int) ({ frames := 0, cells := 0, slots := 0, locals := 0 } : Room) #[(.int p1), (.int p2)] h0 n0 0 0 (fun v h => (∃ z : Int32, v = some (.int z) ∧ (p1.toInt ≤ p2.toInt ∧ z.toInt = p1.toInt ∨ ¬ p1.toInt ≤ p2.toInt ∧ z.toInt = p2.toInt)) ∧ h0 = h) := by
  refine Con.of_bodyF (ls := #[.val (.int p1), .val (.int p2)]) pf_min (fun m => by first | (simp [entryFrame, mkF, argsToLocals, Value.category]; done) | rfl) Z0 (fun p e s m below meth c T (X : Here p l e ({ frames := 0, cells := 0, slots := 0, locals := 0 } : Room) s m #[(.int p1), (.int p2)] below meth c Z "java/lang/Math" "min" jdk_29_method_69_code 2 (some .int) n0 T h0 0 0) => ?_)
  refine r_iloadN X (pc' := 1) d_min_0 rfl rfl ?_
  refine r_iloadN X (pc' := 2) d_min_1 rfl rfl ?_
  refine r_icmp X (pc' := 9) (pc2 := 5) d_min_2 (by decide) (by decide) rfl (a := p1.toInt) (b := p2.toInt) rfl rfl (fun (cq4 : p2.toInt < p1.toInt) => ?_) (fun (cq4 : ¬ (p2.toInt < p1.toInt)) => ?_)
  · refine r_iloadN X (pc' := 10) d_min_9 rfl rfl ?_
    exact r_retI X d_min_10 ⟨⟨_, rfl, by omega⟩, rfl⟩ (by decide) (by decide)
  · refine r_iloadN X (pc' := 6) d_min_5 rfl rfl ?_
    refine r_goto X (pc' := 10) d_min_6 (by decide) (by decide) ?_
    exact r_retI X d_min_10 ⟨⟨_, rfl, by omega⟩, rfl⟩ (by decide) (by decide)
set_option maxRecDepth 65536 in
set_option maxHeartbeats 40000000 in
theorem con_ic (l : Launch) (Z : State) (a0 : Array Value) (hw : ∀ d ∈ tables_1, d.before a0 Z = true) (t1 : Addr) (q1 q2 q3 : Int32) (f : Nat → Int32) (h0 : Heap) (n0 : Nat) (Z0 : n0 ≤ h0.size) (A0 : Arf Z h0 t1 .byte 15 f) (hq2 : q2.toInt = 0) (hq3 : q3.toInt = 15) : Con l Z (⟨"java/lang/StringLatin1", "indexOfChar", "([BIII)I"⟩ : MethodName) jdk_43_method_23_code 6 (some .int) ({ frames := 0, cells := 0, slots := 0, locals := 0 } : Room) #[(.ref t1), (.int q1), (.int q2), (.int q3)] h0 n0 0 0 (fun v h => (∃ z : Int32, v = some (.int z) ∧ (0 ≤ z.toInt ∧ (∃ j, j < 15 ∧ (f j).toInt = (own_b q1).toInt) ∨ z.toInt = -1 ∧ ¬ (∃ j, j < 15 ∧ (f j).toInt = (own_b q1).toInt))) ∧ h0 = h) := by
  refine Con.of_body (ls := #[.val (.ref t1), .val (.int q1), .val (.int q2), .val (.int q3), .unset, .unset]) pn_java_lang_StringLatin1 (fun m => by first | (simp [entryFrame, mkF, argsToLocals, Value.category]; done) | rfl) Z0 (fun p e s m below meth c T (X : Here p l e ({ frames := 0, cells := 0, slots := 0, locals := 0 } : Room) s m #[(.ref t1), (.int q1), (.int q2), (.int q3)] below meth c Z "java/lang/StringLatin1" "indexOfChar" jdk_43_method_23_code 6 (some .int) n0 T h0 0 0) => ?_)
  have LL : ∀ (d i : Nat) (z : Int32), i + d = 15 → z.toInt = i → (∀ j, j < i → ¬ (f j).toInt = (own_b q1).toInt) → Run p e below (Fnl s n0 0 0 (fun v h => (∃ z : Int32, v = some (.int z) ∧ (0 ≤ z.toInt ∧ (∃ j, j < 15 ∧ (f j).toInt = (own_b q1).toInt) ∨ z.toInt = -1 ∧ ¬ (∃ j, j < 15 ∧ (f j).toInt = (own_b q1).toInt))) ∧ h0 = h)) T (mkF m 7 #[.val (.ref t1), .val (.int q1), .val (.int q2), .val (.int q3), .val (.int (own_b q1)), .val (.int z)] []) := by
    intro d
    induction d with
    | zero =>
      intro i z hd hz H
      refine r_iload X (pc' := 9) d_indexOfChar_7 rfl rfl ?_
      refine r_iloadN X (pc' := 10) d_indexOfChar_9 rfl rfl ?_
      refine r_icmpY X (pc' := 31) d_indexOfChar_10 (by decide) (by decide) (a := z.toInt) (b := q3.toInt) rfl rfl (show q3.toInt ≤ z.toInt from (by omega)) ?_
      have hN : ¬ (∃ j, j < 15 ∧ (f j).toInt = (own_b q1).toInt) := by
        rintro ⟨j, hj, e1⟩; exact H j (by omega) e1
      refine r_iconst X (pc' := 32) (v := (-1 : Int32)) d_indexOfChar_31 rfl rfl ?_
      exact r_retI X d_indexOfChar_32 ⟨⟨_, rfl, Or.inr ⟨rfl, hN⟩⟩, rfl⟩ (by decide) (by decide)
    | succ d ih =>
      intro i z hd hz H
      refine r_iload X (pc' := 9) d_indexOfChar_7 rfl rfl ?_
      refine r_iloadN X (pc' := 10) d_indexOfChar_9 rfl rfl ?_
      refine r_icmpN X (pc2 := 13) d_indexOfChar_10 (by decide) rfl (a := z.toInt) (b := q3.toInt) rfl rfl (show ¬ (q3.toInt ≤ z.toInt) from (by omega)) ?_
      refine r_aloadN X (pc' := 14) d_indexOfChar_13 rfl rfl ?_
      refine r_iload X (pc' := 16) d_indexOfChar_14 rfl rfl ?_
      refine r_baload X (pc' := 17) (i := i) (v := (f i)) d_indexOfChar_16 A0 hz (by omega) rfl rfl ?_
      refine r_iload X (pc' := 19) d_indexOfChar_17 rfl rfl ?_
      refine r_icmp X (pc' := 25) (pc2 := 22) d_indexOfChar_19 (by decide) (by decide) rfl (a := (f i).toInt) (b := (own_b q1).toInt) rfl rfl (fun (cq5 : ¬ (f i).toInt = (own_b q1).toInt) => ?_) (fun (cq5 : ¬ (¬ (f i).toInt = (own_b q1).toInt)) => ?_)
      · obtain ⟨z2, hz2⟩ : ∃ y, z + (1 : Int32) = y := ⟨_, rfl⟩
        have kz2 : z2.toInt = ((i + 1 : Nat) : Int) := by rw [← hz2, n_add hz (show (1 : Int32).toInt = 1 from rfl) (by omega) (by omega)]; omega
        refine r_iinc X (pc' := 28) (z := z2) (ls' := #[.val (.ref t1), .val (.int q1), .val (.int q2), .val (.int q3), .val (.int (own_b q1)), .val (.int z2)]) d_indexOfChar_25 rfl hz2 rfl rfl ?_
        refine r_goto X (pc' := 7) d_indexOfChar_28 (by decide) (by decide) ?_
        refine ih (i + 1) z2 (by omega) kz2 (fun j hj => ?_)
        by_cases e1 : j = i
        · rw [e1]; omega
        · exact H j (by omega)
      · refine r_iload X (pc' := 24) d_indexOfChar_22 rfl rfl ?_
        exact r_retI X d_indexOfChar_24 ⟨⟨_, rfl, Or.inl ⟨by omega, i, by omega, by omega⟩⟩, rfl⟩ (by decide) (by decide)
  refine r_iloadN X (pc' := 1) d_indexOfChar_0 rfl rfl ?_
  refine r_i2b X (pc' := 2) (z := (own_b q1)) d_indexOfChar_1 rfl rfl ?_
  refine r_istore X (pc' := 4) (ls' := #[.val (.ref t1), .val (.int q1), .val (.int q2), .val (.int q3), .val (.int (own_b q1)), .unset]) d_indexOfChar_2 rfl rfl ?_
  refine r_iloadN X (pc' := 5) d_indexOfChar_4 rfl rfl ?_
  refine r_istore X (pc' := 7) (ls' := #[.val (.ref t1), .val (.int q1), .val (.int q2), .val (.int q3), .val (.int (own_b q1)), .val (.int q2)]) d_indexOfChar_5 rfl rfl ?_
  exact LL 15 0 q2 rfl (by rw [hq2]; rfl) (fun j hj => by omega)
set_option maxRecDepth 65536 in
set_option maxHeartbeats 40000000 in
theorem con_sl (l : Launch) (Z : State) (a0 : Array Value) (hw : ∀ d ∈ tables_1, d.before a0 Z = true) (t1 : Addr) (q1 q2 q3 : Int32) (f : Nat → Int32) (h0 : Heap) (n0 : Nat) (Z0 : n0 ≤ h0.size) (A0 : Arf Z h0 t1 .byte 15 f) (hq1 : 0 ≤ q1.toInt) (hq2 : q2.toInt = 0) (hq3 : q3.toInt = 15) : Con l Z (⟨"java/lang/StringLatin1", "indexOf", "([BIII)I"⟩ : MethodName) jdk_43_method_22_code 4 (some .int) ({ frames := 1, cells := 0, slots := 0, locals := 17 } : Room) #[(.ref t1), (.int q1), (.int q2), (.int q3)] h0 n0 0 0 (fun v h => (∃ z : Int32, v = some (.int z) ∧ (0 ≤ z.toInt ∧ (q1.toInt ≤ 255 ∧ (∃ j, j < 15 ∧ (f j).toInt = (own_b q1).toInt)) ∨ z.toInt = -1 ∧ ¬ (q1.toInt ≤ 255 ∧ (∃ j, j < 15 ∧ (f j).toInt = (own_b q1).toInt)))) ∧ h0 = h) := by
  refine Con.of_body (ls := #[.val (.ref t1), .val (.int q1), .val (.int q2), .val (.int q3)]) pn_java_lang_StringLatin1 (fun m => by first | (simp [entryFrame, mkF, argsToLocals, Value.category]; done) | rfl) Z0 (fun p e s m below meth c T (X : Here p l e ({ frames := 1, cells := 0, slots := 0, locals := 17 } : Room) s m #[(.ref t1), (.int q1), (.int q2), (.int q3)] below meth c Z "java/lang/StringLatin1" "indexOf" jdk_43_method_22_code 4 (some .int) n0 T h0 0 0) => ?_)
  refine r_iloadN X (pc' := 1) d_indexOf___0 rfl rfl ?_
  refine r_callS X (pc' := 4) d_indexOf___1 (con_ce l Z a0 hw q1 h0 n0 Z0) (wd hw 45 rfl) (wd hw 46 rfl) (wd hw 43 rfl) (wd hw 47 rfl) (by decide) (argsL := [(.int q1)]) (rest := []) (W := 0) rfl rfl pd_canEncode rfl rfl (by decide) (by decide) (by decide) (by decide) rfl (fun v6 T7 h8 X9 QQ10 => ?_)
  obtain ⟨⟨c1, rfl, hc1⟩, rfl⟩ := QQ10
  show Run p e below _ _ (mkF m 4 #[.val (.ref t1), .val (.int q1), .val (.int q2), .val (.int q3)] [(.int c1)])
  refine r_if X9 (pc' := 9) (pc2 := 7) d_indexOf___4 (by decide) (by decide) rfl (a := c1.toInt) (b := 0) rfl rfl (fun (cq11 : ¬ c1.toInt = 0) => ?_) (fun (cq11 : ¬ (¬ c1.toInt = 0)) => ?_)
  · refine r_iloadN X9 (pc' := 10) d_indexOf___9 rfl rfl ?_
    refine r_iconst X9 (pc' := 11) (v := (0 : Int32)) d_indexOf___10 rfl rfl ?_
    refine r_callS X9 (pc' := 14) d_indexOf___11 (con_max l Z a0 hw q2 (0 : Int32) h0 n0 Z0) (wd hw 48 rfl) (wd hw 49 rfl) (wd hw 50 rfl) (wd hw 51 rfl) (by decide) (argsL := [(.int q2), (.int (0 : Int32))]) (rest := []) (W := 0) rfl rfl pd_max rfl rfl (by decide) (by decide) (by decide) (by decide) rfl (fun v12 T13 h14 X15 QQ16 => ?_)
    obtain ⟨⟨z1, rfl, hz1⟩, rfl⟩ := QQ16
    show Run p e below _ _ (mkF m 14 #[.val (.ref t1), .val (.int q1), .val (.int q2), .val (.int q3)] [(.int z1)])
    have e0 : (0 : Int32).toInt = 0 := rfl
    refine r_istoreN X15 (pc' := 15) (ls' := #[.val (.ref t1), .val (.int q1), .val (.int z1), .val (.int q3)]) d_indexOf___14 rfl rfl ?_
    refine r_iloadN X15 (pc' := 16) d_indexOf___15 rfl rfl ?_
    refine r_aloadN X15 (pc' := 17) d_indexOf___16 rfl rfl ?_
    refine r_arraylength X15 (pc' := 18) (v := (15 : Int32)) d_indexOf___17 A0 rfl rfl ?_
    refine r_callS X15 (pc' := 21) d_indexOf___18 (con_min l Z a0 hw q3 (15 : Int32) h0 n0 Z0) (wd hw 52 rfl) (wd hw 53 rfl) (wd hw 50 rfl) (wd hw 54 rfl) (by decide) (argsL := [(.int q3), (.int (15 : Int32))]) (rest := []) (W := 0) rfl rfl pd_min rfl rfl (by decide) (by decide) (by decide) (by decide) rfl (fun v17 T18 h19 X20 QQ21 => ?_)
    obtain ⟨⟨z2, rfl, hz2⟩, rfl⟩ := QQ21
    show Run p e below _ _ (mkF m 21 #[.val (.ref t1), .val (.int q1), .val (.int z1), .val (.int q3)] [(.int z2)])
    have e15 : (15 : Int32).toInt = 15 := rfl
    refine r_istoreN X20 (pc' := 22) (ls' := #[.val (.ref t1), .val (.int q1), .val (.int z1), .val (.int z2)]) d_indexOf___21 rfl rfl ?_
    refine r_iloadN X20 (pc' := 23) d_indexOf___22 rfl rfl ?_
    refine r_iloadN X20 (pc' := 24) d_indexOf___23 rfl rfl ?_
    refine r_icmpY X20 (pc' := 29) d_indexOf___24 (by decide) (by decide) (a := z1.toInt) (b := z2.toInt) rfl rfl (show z1.toInt < z2.toInt from (by omega)) ?_
    refine r_aloadN X20 (pc' := 30) d_indexOf___29 rfl rfl ?_
    refine r_iloadN X20 (pc' := 31) d_indexOf___30 rfl rfl ?_
    refine r_iloadN X20 (pc' := 32) d_indexOf___31 rfl rfl ?_
    refine r_iloadN X20 (pc' := 33) d_indexOf___32 rfl rfl ?_
    refine r_callS X20 (pc' := 36) d_indexOf___33 (con_ic l Z a0 hw t1 q1 z1 z2 f h0 n0 Z0 A0 (by omega) (by omega)) (wd hw 55 rfl) (wd hw 56 rfl) (wd hw 43 rfl) (wd hw 57 rfl) (by decide) (argsL := [(.ref t1), (.int q1), (.int z1), (.int z2)]) (rest := []) (W := 0) rfl rfl pd_indexOfChar rfl rfl (by decide) (by decide) (by decide) (by decide) rfl (fun v22 T23 h24 X25 QQ26 => ?_)
    obtain ⟨⟨z3, rfl, hz3⟩, rfl⟩ := QQ26
    show Run p e below _ _ (mkF m 36 #[.val (.ref t1), .val (.int q1), .val (.int z1), .val (.int z2)] [(.int z3)])
    exact r_retI X25 d_indexOf___36 ⟨⟨_, rfl, hz3.elim (fun w => Or.inl ⟨w.1, by omega, w.2⟩) (fun w => Or.inr ⟨w.1, fun u => w.2 u.2⟩)⟩, rfl⟩ (by decide) (by decide)
  · refine r_iconst X9 (pc' := 8) (v := (-1 : Int32)) d_indexOf___7 rfl rfl ?_
    exact r_retI X9 d_indexOf___8 ⟨⟨_, rfl, Or.inr ⟨rfl, fun u => by omega⟩⟩, rfl⟩ (by decide) (by decide)
set_option maxRecDepth 65536 in
set_option maxHeartbeats 40000000 in
theorem con_cd (l : Launch) (Z : State) (a0 : Array Value) (hw : ∀ d ∈ tables_1, d.before a0 Z = true) (a1 : Addr) (cs : Int32) (h0 : Heap) (n0 : Nat) (Z0 : n0 ≤ h0.size) (S0 : Sta Z h0 "java/lang/String" "COMPACT_STRINGS" "Z" (.int cs)) (hcs : ¬ cs.toInt = 0) (F1 : Fld Z h0 a1 "java/lang/String" "coder" "B" (.int (0 : Int32))) : Con l Z (⟨"java/lang/String", "coder", "()B"⟩ : MethodName) jdk_42_method_152_code 1 (some .byte) ({ frames := 0, cells := 0, slots := 0, locals := 0 } : Room) #[(.ref a1)] h0 n0 0 0 (fun v h => v = some (.int (0 : Int32)) ∧ h0 = h) := by
  refine Con.of_body (ls := #[.val (.ref a1)]) pn_java_lang_String (fun m => by first | (simp [entryFrame, mkF, argsToLocals, Value.category]; done) | rfl) Z0 (fun p e s m below meth c T (X : Here p l e ({ frames := 0, cells := 0, slots := 0, locals := 0 } : Room) s m #[(.ref a1)] below meth c Z "java/lang/String" "coder" jdk_42_method_152_code 1 (some .byte) n0 T h0 0 0) => ?_)
  refine r_getstatic X (pc' := 3) d_coder_0 (wd hw 28 rfl) S0 rfl (fun T27 X28 => ?_)
  refine r_ifN X28 (pc2 := 6) d_coder_3 (by decide) rfl (a := cs.toInt) (b := 0) rfl rfl (show ¬ (cs.toInt = 0) from hcs) ?_
  refine r_aloadN X28 (pc' := 7) d_coder_6 rfl rfl ?_
  refine r_getfield X28 (pc' := 10) d_coder_7 (wd hw 29 rfl) F1 rfl (fun T29 X30 => ?_)
  refine r_goto X30 (pc' := 14) d_coder_10 (by decide) (by decide) ?_
  exact r_retN X30 (by simp) d_coder_14 (z := (0 : Int32)) (w := (0 : Int32)) rfl ⟨rfl, rfl⟩ (by decide) (by decide)
set_option maxRecDepth 65536 in
set_option maxHeartbeats 40000000 in
theorem con_il (l : Launch) (Z : State) (a0 : Array Value) (hw : ∀ d ∈ tables_1, d.before a0 Z = true) (a1 : Addr) (cs : Int32) (h0 : Heap) (n0 : Nat) (Z0 : n0 ≤ h0.size) (S0 : Sta Z h0 "java/lang/String" "COMPACT_STRINGS" "Z" (.int cs)) (hcs : ¬ cs.toInt = 0) (F1 : Fld Z h0 a1 "java/lang/String" "coder" "B" (.int (0 : Int32))) : Con l Z (⟨"java/lang/String", "isLatin1", "()Z"⟩ : MethodName) jdk_42_method_154_code 1 (some .boolean) ({ frames := 0, cells := 0, slots := 0, locals := 0 } : Room) #[(.ref a1)] h0 n0 0 0 (fun v h => v = some (.int (1 : Int32)) ∧ h0 = h) := by
  refine Con.of_body (ls := #[.val (.ref a1)]) pn_java_lang_String (fun m => by first | (simp [entryFrame, mkF, argsToLocals, Value.category]; done) | rfl) Z0 (fun p e s m below meth c T (X : Here p l e ({ frames := 0, cells := 0, slots := 0, locals := 0 } : Room) s m #[(.ref a1)] below meth c Z "java/lang/String" "isLatin1" jdk_42_method_154_code 1 (some .boolean) n0 T h0 0 0) => ?_)
  refine r_getstatic X (pc' := 3) d_isLatin1_0 (wd hw 28 rfl) S0 rfl (fun T31 X32 => ?_)
  refine r_ifN X32 (pc2 := 6) d_isLatin1_3 (by decide) rfl (a := cs.toInt) (b := 0) rfl rfl (show ¬ (cs.toInt = 0) from hcs) ?_
  refine r_aloadN X32 (pc' := 7) d_isLatin1_6 rfl rfl ?_
  refine r_getfield X32 (pc' := 10) d_isLatin1_7 (wd hw 29 rfl) F1 rfl (fun T33 X34 => ?_)
  refine r_ifN X34 (pc2 := 13) d_isLatin1_10 (by decide) rfl (a := 0) (b := 0) rfl rfl (show ¬ (¬ 0 = 0) from (by decide)) ?_
  refine r_iconst X34 (pc' := 14) (v := (1 : Int32)) d_isLatin1_13 rfl rfl ?_
  refine r_goto X34 (pc' := 18) d_isLatin1_14 (by decide) (by decide) ?_
  exact r_retN X34 (by simp) d_isLatin1_18 (z := (1 : Int32)) (w := (1 : Int32)) rfl ⟨rfl, rfl⟩ (by decide) (by decide)
set_option maxRecDepth 65536 in
set_option maxHeartbeats 40000000 in
theorem con_len (l : Launch) (Z : State) (a0 : Array Value) (hw : ∀ d ∈ tables_1, d.before a0 Z = true) (a1 t1 : Addr) (cs : Int32) (f : Nat → Int32) (h0 : Heap) (n0 : Nat) (Z0 : n0 ≤ h0.size) (S0 : Sta Z h0 "java/lang/String" "COMPACT_STRINGS" "Z" (.int cs)) (hcs : ¬ cs.toInt = 0) (E1 : Exa Z h0 a1 "java/lang/String") (F1 : Fld Z h0 a1 "java/lang/String" "coder" "B" (.int (0 : Int32))) (F2 : Fld Z h0 a1 "java/lang/String" "value" "[B" (.ref t1)) (A0 : Arf Z h0 t1 .byte 15 f) : Con l Z (⟨"java/lang/String", "length", "()I"⟩ : MethodName) jdk_42_method_54_code 1 (some .int) ({ frames := 1, cells := 0, slots := 0, locals := 13 } : Room) #[(.ref a1)] h0 n0 0 0 (fun v h => v = some (.int (15 : Int32)) ∧ h0 = h) := by
  refine Con.of_body (ls := #[.val (.ref a1)]) pn_java_lang_String (fun m => by first | (simp [entryFrame, mkF, argsToLocals, Value.category]; done) | rfl) Z0 (fun p e s m below meth c T (X : Here p l e ({ frames := 1, cells := 0, slots := 0, locals := 13 } : Room) s m #[(.ref a1)] below meth c Z "java/lang/String" "length" jdk_42_method_54_code 1 (some .int) n0 T h0 0 0) => ?_)
  refine r_aloadN X (pc' := 1) d_length_0 rfl rfl ?_
  refine r_getfield X (pc' := 4) d_length_1 (wd hw 30 rfl) F2 rfl (fun T35 X36 => ?_)
  refine r_arraylength X36 (pc' := 5) (v := (15 : Int32)) d_length_4 A0 rfl rfl ?_
  refine r_aloadN X36 (pc' := 6) d_length_5 rfl rfl ?_
  refine r_callV X36 (pc' := 9) d_length_6 (con_cd l Z a0 hw a1 cs h0 n0 Z0 S0 hcs F1) E1 (wd hw 36 rfl) (wd hw 37 rfl) (wd hw 39 rfl) (wd hw 38 rfl) (wd hw 6 rfl) (wd hw 40 rfl) (by decide) (argsL := []) (rest := [(.int (15 : Int32))]) (W := 1) rfl rfl pd_coder rfl rfl (by decide) (by decide) (by decide) (by decide) rfl (fun v37 T38 h39 X40 QQ41 => ?_)
  obtain ⟨rfl, rfl⟩ := QQ41
  show Run p e below _ _ (mkF m 9 #[.val (.ref a1)] [(.int (0 : Int32)), (.int (15 : Int32))])
  refine r_ishr X40 (pc' := 10) (z := (15 : Int32)) d_length_9 rfl rfl ?_
  exact r_retI X40 d_length_10 ⟨rfl, rfl⟩ (by decide) (by decide)
set_option maxRecDepth 65536 in
set_option maxHeartbeats 40000000 in
theorem con_i2 (l : Launch) (Z : State) (a0 : Array Value) (hw : ∀ d ∈ tables_1, d.before a0 Z = true) (a1 t1 : Addr) (q1 q2 cs : Int32) (f : Nat → Int32) (h0 : Heap) (n0 : Nat) (Z0 : n0 ≤ h0.size) (S0 : Sta Z h0 "java/lang/String" "COMPACT_STRINGS" "Z" (.int cs)) (hcs : ¬ cs.toInt = 0) (E1 : Exa Z h0 a1 "java/lang/String") (F1 : Fld Z h0 a1 "java/lang/String" "coder" "B" (.int (0 : Int32))) (F2 : Fld Z h0 a1 "java/lang/String" "value" "[B" (.ref t1)) (A0 : Arf Z h0 t1 .byte 15 f) (hq1 : 0 ≤ q1.toInt) (hq2 : q2.toInt = 0) : Con l Z (⟨"java/lang/String", "indexOf", "(II)I"⟩ : MethodName) jdk_42_method_80_code 3 (some .int) ({ frames := 2, cells := 0, slots := 0, locals := 32 } : Room) #[(.ref a1), (.int q1), (.int q2)] h0 n0 0 0 (fun v h => (∃ z : Int32, v = some (.int z) ∧ (0 ≤ z.toInt ∧ (q1.toInt ≤ 255 ∧ (∃ j, j < 15 ∧ (f j).toInt = (own_b q1).toInt)) ∨ z.toInt = -1 ∧ ¬ (q1.toInt ≤ 255 ∧ (∃ j, j < 15 ∧ (f j).toInt = (own_b q1).toInt)))) ∧ h0 = h) := by
  refine Con.of_body (ls := #[.val (.ref a1), .val (.int q1), .val (.int q2)]) pn_java_lang_String (fun m => by first | (simp [entryFrame, mkF, argsToLocals, Value.category]; done) | rfl) Z0 (fun p e s m below meth c T (X : Here p l e ({ frames := 2, cells := 0, slots := 0, locals := 32 } : Room) s m #[(.ref a1), (.int q1), (.int q2)] below meth c Z "java/lang/String" "indexOf" jdk_42_method_80_code 3 (some .int) n0 T h0 0 0) => ?_)
  refine r_aloadN X (pc' := 1) d_indexOf__0 rfl rfl ?_
  refine r_callV X (pc' := 4) d_indexOf__1 (con_il l Z a0 hw a1 cs h0 n0 Z0 S0 hcs F1) E1 (wd hw 23 rfl) (wd hw 24 rfl) (wd hw 26 rfl) (wd hw 25 rfl) (wd hw 6 rfl) (wd hw 27 rfl) (by decide) (argsL := []) (rest := []) (W := 0) rfl rfl pd_isLatin1 rfl rfl (by decide) (by decide) (by decide) (by decide) rfl (fun v42 T43 h44 X45 QQ46 => ?_)
  obtain ⟨rfl, rfl⟩ := QQ46
  show Run p e below _ _ (mkF m 4 #[.val (.ref a1), .val (.int q1), .val (.int q2)] [(.int (1 : Int32))])
  refine r_ifN X45 (pc2 := 7) d_indexOf__4 (by decide) rfl (a := 1) (b := 0) rfl rfl (show ¬ (1 = 0) from (by decide)) ?_
  refine r_aloadN X45 (pc' := 8) d_indexOf__7 rfl rfl ?_
  refine r_getfield X45 (pc' := 11) d_indexOf__8 (wd hw 30 rfl) F2 rfl (fun T47 X48 => ?_)
  refine r_iloadN X48 (pc' := 12) d_indexOf__11 rfl rfl ?_
  refine r_iloadN X48 (pc' := 13) d_indexOf__12 rfl rfl ?_
  refine r_aloadN X48 (pc' := 14) d_indexOf__13 rfl rfl ?_
  refine r_callV X48 (pc' := 17) d_indexOf__14 (con_len l Z a0 hw a1 t1 cs f h0 n0 Z0 S0 hcs E1 F1 F2 A0) E1 (wd hw 31 rfl) (wd hw 32 rfl) (wd hw 34 rfl) (wd hw 33 rfl) (wd hw 6 rfl) (wd hw 35 rfl) (by decide) (argsL := []) (rest := [(.int q2), (.int q1), (.ref t1)]) (W := 3) rfl rfl pd_length rfl rfl (by decide) (by decide) (by decide) (by decide) rfl (fun v49 T50 h51 X52 QQ53 => ?_)
  obtain ⟨rfl, rfl⟩ := QQ53
  show Run p e below _ _ (mkF m 17 #[.val (.ref a1), .val (.int q1), .val (.int q2)] [(.int (15 : Int32)), (.int q2), (.int q1), (.ref t1)])
  refine r_callS X52 (pc' := 20) d_indexOf__17 (con_sl l Z a0 hw t1 q1 q2 (15 : Int32) f h0 n0 Z0 A0 hq1 hq2 rfl) (wd hw 41 rfl) (wd hw 42 rfl) (wd hw 43 rfl) (wd hw 44 rfl) (by decide) (argsL := [(.ref t1), (.int q1), (.int q2), (.int (15 : Int32))]) (rest := []) (W := 0) rfl rfl pd_indexOf__ rfl rfl (by decide) (by decide) (by decide) (by decide) rfl (fun v54 T55 h56 X57 QQ58 => ?_)
  obtain ⟨⟨z1, rfl, hz1⟩, rfl⟩ := QQ58
  show Run p e below _ _ (mkF m 20 #[.val (.ref a1), .val (.int q1), .val (.int q2)] [(.int z1)])
  refine r_goto X57 (pc' := 36) d_indexOf__20 (by decide) (by decide) ?_
  exact r_retI X57 d_indexOf__36 ⟨⟨_, rfl, hz1⟩, rfl⟩ (by decide) (by decide)
set_option maxRecDepth 65536 in
set_option maxHeartbeats 40000000 in
theorem con_i1 (l : Launch) (Z : State) (a0 : Array Value) (hw : ∀ d ∈ tables_1, d.before a0 Z = true) (a1 t1 : Addr) (q1 cs : Int32) (f : Nat → Int32) (h0 : Heap) (n0 : Nat) (Z0 : n0 ≤ h0.size) (S0 : Sta Z h0 "java/lang/String" "COMPACT_STRINGS" "Z" (.int cs)) (hcs : ¬ cs.toInt = 0) (E1 : Exa Z h0 a1 "java/lang/String") (F1 : Fld Z h0 a1 "java/lang/String" "coder" "B" (.int (0 : Int32))) (F2 : Fld Z h0 a1 "java/lang/String" "value" "[B" (.ref t1)) (A0 : Arf Z h0 t1 .byte 15 f) (hq1 : 0 ≤ q1.toInt) : Con l Z (⟨"java/lang/String", "indexOf", "(I)I"⟩ : MethodName) jdk_42_method_79_code 2 (some .int) ({ frames := 3, cells := 0, slots := 0, locals := 46 } : Room) #[(.ref a1), (.int q1)] h0 n0 0 0 (fun v h => (∃ z : Int32, v = some (.int z) ∧ (0 ≤ z.toInt ∧ (q1.toInt ≤ 255 ∧ (∃ j, j < 15 ∧ (f j).toInt = (own_b q1).toInt)) ∨ z.toInt = -1 ∧ ¬ (q1.toInt ≤ 255 ∧ (∃ j, j < 15 ∧ (f j).toInt = (own_b q1).toInt)))) ∧ h0 = h) := by
  refine Con.of_body (ls := #[.val (.ref a1), .val (.int q1)]) pn_java_lang_String (fun m => by first | (simp [entryFrame, mkF, argsToLocals, Value.category]; done) | rfl) Z0 (fun p e s m below meth c T (X : Here p l e ({ frames := 3, cells := 0, slots := 0, locals := 46 } : Room) s m #[(.ref a1), (.int q1)] below meth c Z "java/lang/String" "indexOf" jdk_42_method_79_code 2 (some .int) n0 T h0 0 0) => ?_)
  refine r_aloadN X (pc' := 1) d_indexOf_0 rfl rfl ?_
  refine r_iloadN X (pc' := 2) d_indexOf_1 rfl rfl ?_
  refine r_iconst X (pc' := 3) (v := (0 : Int32)) d_indexOf_2 rfl rfl ?_
  refine r_callV X (pc' := 6) d_indexOf_3 (con_i2 l Z a0 hw a1 t1 q1 (0 : Int32) cs f h0 n0 Z0 S0 hcs E1 F1 F2 A0 hq1 rfl) E1 (wd hw 18 rfl) (wd hw 19 rfl) (wd hw 21 rfl) (wd hw 20 rfl) (wd hw 6 rfl) (wd hw 22 rfl) (by decide) (argsL := [(.int q1), (.int (0 : Int32))]) (rest := []) (W := 0) rfl rfl pd_indexOf_ rfl rfl (by decide) (by decide) (by decide) (by decide) rfl (fun v59 T60 h61 X62 QQ63 => ?_)
  obtain ⟨⟨z1, rfl, hz1⟩, rfl⟩ := QQ63
  show Run p e below _ _ (mkF m 6 #[.val (.ref a1), .val (.int q1)] [(.int z1)])
  exact r_retI X62 d_indexOf_6 ⟨⟨_, rfl, hz1⟩, rfl⟩ (by decide) (by decide)
set_option maxRecDepth 65536 in
set_option maxHeartbeats 40000000 in
theorem con_t (l : Launch) (Z : State) (a0 : Array Value) (hw : ∀ d ∈ tables_1, d.before a0 Z = true) (p1 cs : Int32) (h0 : Heap) (n0 : Nat) (Z0 : n0 ≤ h0.size) (S0 : Sta Z h0 "java/lang/String" "COMPACT_STRINGS" "Z" (.int cs)) (hcs : ¬ cs.toInt = 0) (hp1 : 0 ≤ p1.toInt) : ConW l Z (⟨"com/example/nestful/nestful/header/FieldText", "isTokenChar", "(C)Z"⟩ : MethodName) prog_17_method_2_code 1 (some .boolean) ({ frames := 4, cells := 2, slots := 64, locals := 59 } : Room) #[(.int p1)] h0 n0 2 64 consts_1 (fun v h => ∃ z : Int32, v = some (.int z) ∧ (z.toInt = 1 ∧ (((97 ≤ p1.toInt ∧ p1.toInt ≤ 122) ∨ (65 ≤ p1.toInt ∧ p1.toInt ≤ 90) ∨ (48 ≤ p1.toInt ∧ p1.toInt ≤ 57)) ∨ (p1.toInt ≤ 255 ∧ ∃ j, j < 15 ∧ (own_f j).toInt = (own_b p1).toInt)) ∨ z.toInt = 0 ∧ ¬ (((97 ≤ p1.toInt ∧ p1.toInt ≤ 122) ∨ (65 ≤ p1.toInt ∧ p1.toInt ≤ 90) ∨ (48 ≤ p1.toInt ∧ p1.toInt ≤ 57)) ∨ (p1.toInt ≤ 255 ∧ ∃ j, j < 15 ∧ (own_f j).toInt = (own_b p1).toInt)))) := by
  refine ConW.of_body (ls := #[.val (.int p1)]) pn_com_example_nestful_nestful_header_FieldText (fun m => by first | (simp [entryFrame, mkF, argsToLocals, Value.category]; done) | rfl) Z0 (fun p e s m below meth c T Wd (X : Here p l e ({ frames := 4, cells := 2, slots := 64, locals := 59 } : Room) (s.setVm s.vm) m #[(.int p1)] below meth c Z "com/example/nestful/nestful/header/FieldText" "isTokenChar" prog_17_method_2_code 1 (some .boolean) n0 T h0 0 0) => ?_)
  refine r_iloadN X (pc' := 1) d_isTokenChar_0 rfl rfl ?_
  refine r_bipush X (pc' := 3) (v := (97 : Int32)) d_isTokenChar_1 rfl rfl ?_
  refine r_icmp X (pc' := 12) (pc2 := 6) d_isTokenChar_3 (by decide) (by decide) rfl (a := p1.toInt) (b := 97) rfl rfl (fun (cq64 : p1.toInt < 97) => ?_) (fun (cq64 : ¬ (p1.toInt < 97)) => ?_)
  · refine r_iloadN X (pc' := 13) d_isTokenChar_12 rfl rfl ?_
    refine r_bipush X (pc' := 15) (v := (65 : Int32)) d_isTokenChar_13 rfl rfl ?_
    refine r_icmp X (pc' := 24) (pc2 := 18) d_isTokenChar_15 (by decide) (by decide) rfl (a := p1.toInt) (b := 65) rfl rfl (fun (cq65 : p1.toInt < 65) => ?_) (fun (cq65 : ¬ (p1.toInt < 65)) => ?_)
    · refine r_iloadN X (pc' := 25) d_isTokenChar_24 rfl rfl ?_
      refine r_bipush X (pc' := 27) (v := (48 : Int32)) d_isTokenChar_25 rfl rfl ?_
      refine r_icmp X (pc' := 36) (pc2 := 30) d_isTokenChar_27 (by decide) (by decide) rfl (a := p1.toInt) (b := 48) rfl rfl (fun (cq66 : p1.toInt < 48) => ?_) (fun (cq66 : ¬ (p1.toInt < 48)) => ?_)
      · refine r_ldcS X Wd (pc' := 38) (us := own_us) (N := 15) (nn := 60) d_isTokenChar_36 (wd hw 5 rfl) (own_atoms hw) (own_EW hw) (List.mem_of_getElem? (i := 0) rfl) ⟨by decide, rfl⟩ rfl (by decide) (by decide) (by decide) (by decide) (by decide) rfl (fun a67 b68 vm69 T70 h71 X72 Wd73 E74 Ea75 Fc76 Fv77 A78 => ?_)
        refine r_iloadN X72 (pc' := 39) d_isTokenChar_38 rfl rfl ?_
        refine r_callV X72 (pc' := 42) d_isTokenChar_39 (con_i1 l Z a0 hw a67 b68 p1 cs own_f h71 n0 X72.sz (S0.ext E74) hcs Ea75 Fc76 Fv77 A78 hp1) Ea75 (wd hw 13 rfl) (wd hw 14 rfl) (wd hw 16 rfl) (wd hw 15 rfl) (wd hw 6 rfl) (wd hw 17 rfl) (by decide) (argsL := [(.int p1)]) (rest := []) (W := 0) rfl rfl pd_indexOf rfl rfl (by decide) (by decide) (by decide) (by decide) rfl (fun v79 T80 h81 X82 QQ83 => ?_)
        obtain ⟨⟨z1, rfl, hz1⟩, rfl⟩ := QQ83
        show Run p e below _ _ (mkF m 42 #[.val (.int p1)] [(.int z1)])
        refine r_if X82 (pc' := 49) (pc2 := 45) d_isTokenChar_42 (by decide) (by decide) rfl (a := z1.toInt) (b := 0) rfl rfl (fun (cq84 : z1.toInt < 0) => ?_) (fun (cq84 : ¬ (z1.toInt < 0)) => ?_)
        · have ntok : ¬ (p1.toInt ≤ 255 ∧ ∃ j, j < 15 ∧ (own_f j).toInt = (own_b p1).toInt) := hz1.elim (fun w => absurd w.1 (by omega)) (fun w => w.2)
          refine r_iconst X82 (pc' := 50) (v := (0 : Int32)) d_isTokenChar_49 rfl rfl ?_
          exact r_retNW X82 Wd73 (own_EW hw) (by simp) d_isTokenChar_50 (z := (0 : Int32)) (w := (0 : Int32)) rfl ⟨_, rfl, Or.inr ⟨rfl, fun u => u.elim (fun u1 => by omega) (fun u2 => ntok u2)⟩⟩ (by decide) (by decide)
        · have tok : (p1.toInt ≤ 255 ∧ ∃ j, j < 15 ∧ (own_f j).toInt = (own_b p1).toInt) := hz1.elim (fun w => w.2) (fun w => absurd w.1 (by omega))
          refine r_iconst X82 (pc' := 46) (v := (1 : Int32)) d_isTokenChar_45 rfl rfl ?_
          refine r_goto X82 (pc' := 50) d_isTokenChar_46 (by decide) (by decide) ?_
          exact r_retNW X82 Wd73 (own_EW hw) (by simp) d_isTokenChar_50 (z := (1 : Int32)) (w := (1 : Int32)) rfl ⟨_, rfl, Or.inl ⟨rfl, Or.inr tok⟩⟩ (by decide) (by decide)
      · refine r_iloadN X (pc' := 31) d_isTokenChar_30 rfl rfl ?_
        refine r_bipush X (pc' := 33) (v := (57 : Int32)) d_isTokenChar_31 rfl rfl ?_
        refine r_icmp X (pc' := 45) (pc2 := 36) d_isTokenChar_33 (by decide) (by decide) rfl (a := p1.toInt) (b := 57) rfl rfl (fun (cq85 : p1.toInt ≤ 57) => ?_) (fun (cq85 : ¬ (p1.toInt ≤ 57)) => ?_)
        · refine r_iconst X (pc' := 46) (v := (1 : Int32)) d_isTokenChar_45 rfl rfl ?_
          refine r_goto X (pc' := 50) d_isTokenChar_46 (by decide) (by decide) ?_
          exact r_retNW X Wd (own_EW hw) (by simp) d_isTokenChar_50 (z := (1 : Int32)) (w := (1 : Int32)) rfl ⟨_, rfl, Or.inl ⟨rfl, Or.inl (by omega)⟩⟩ (by decide) (by decide)
        · refine r_ldcS X Wd (pc' := 38) (us := own_us) (N := 15) (nn := 60) d_isTokenChar_36 (wd hw 5 rfl) (own_atoms hw) (own_EW hw) (List.mem_of_getElem? (i := 0) rfl) ⟨by decide, rfl⟩ rfl (by decide) (by decide) (by decide) (by decide) (by decide) rfl (fun a86 b87 vm88 T89 h90 X91 Wd92 E93 Ea94 Fc95 Fv96 A97 => ?_)
          refine r_iloadN X91 (pc' := 39) d_isTokenChar_38 rfl rfl ?_
          refine r_callV X91 (pc' := 42) d_isTokenChar_39 (con_i1 l Z a0 hw a86 b87 p1 cs own_f h90 n0 X91.sz (S0.ext E93) hcs Ea94 Fc95 Fv96 A97 hp1) Ea94 (wd hw 13 rfl) (wd hw 14 rfl) (wd hw 16 rfl) (wd hw 15 rfl) (wd hw 6 rfl) (wd hw 17 rfl) (by decide) (argsL := [(.int p1)]) (rest := []) (W := 0) rfl rfl pd_indexOf rfl rfl (by decide) (by decide) (by decide) (by decide) rfl (fun v98 T99 h100 X101 QQ102 => ?_)
          obtain ⟨⟨z1, rfl, hz1⟩, rfl⟩ := QQ102
          show Run p e below _ _ (mkF m 42 #[.val (.int p1)] [(.int z1)])
          refine r_if X101 (pc' := 49) (pc2 := 45) d_isTokenChar_42 (by decide) (by decide) rfl (a := z1.toInt) (b := 0) rfl rfl (fun (cq103 : z1.toInt < 0) => ?_) (fun (cq103 : ¬ (z1.toInt < 0)) => ?_)
          · have ntok : ¬ (p1.toInt ≤ 255 ∧ ∃ j, j < 15 ∧ (own_f j).toInt = (own_b p1).toInt) := hz1.elim (fun w => absurd w.1 (by omega)) (fun w => w.2)
            refine r_iconst X101 (pc' := 50) (v := (0 : Int32)) d_isTokenChar_49 rfl rfl ?_
            exact r_retNW X101 Wd92 (own_EW hw) (by simp) d_isTokenChar_50 (z := (0 : Int32)) (w := (0 : Int32)) rfl ⟨_, rfl, Or.inr ⟨rfl, fun u => u.elim (fun u1 => by omega) (fun u2 => ntok u2)⟩⟩ (by decide) (by decide)
          · have tok : (p1.toInt ≤ 255 ∧ ∃ j, j < 15 ∧ (own_f j).toInt = (own_b p1).toInt) := hz1.elim (fun w => w.2) (fun w => absurd w.1 (by omega))
            refine r_iconst X101 (pc' := 46) (v := (1 : Int32)) d_isTokenChar_45 rfl rfl ?_
            refine r_goto X101 (pc' := 50) d_isTokenChar_46 (by decide) (by decide) ?_
            exact r_retNW X101 Wd92 (own_EW hw) (by simp) d_isTokenChar_50 (z := (1 : Int32)) (w := (1 : Int32)) rfl ⟨_, rfl, Or.inl ⟨rfl, Or.inr tok⟩⟩ (by decide) (by decide)
    · refine r_iloadN X (pc' := 19) d_isTokenChar_18 rfl rfl ?_
      refine r_bipush X (pc' := 21) (v := (90 : Int32)) d_isTokenChar_19 rfl rfl ?_
      refine r_icmp X (pc' := 45) (pc2 := 24) d_isTokenChar_21 (by decide) (by decide) rfl (a := p1.toInt) (b := 90) rfl rfl (fun (cq104 : p1.toInt ≤ 90) => ?_) (fun (cq104 : ¬ (p1.toInt ≤ 90)) => ?_)
      · refine r_iconst X (pc' := 46) (v := (1 : Int32)) d_isTokenChar_45 rfl rfl ?_
        refine r_goto X (pc' := 50) d_isTokenChar_46 (by decide) (by decide) ?_
        exact r_retNW X Wd (own_EW hw) (by simp) d_isTokenChar_50 (z := (1 : Int32)) (w := (1 : Int32)) rfl ⟨_, rfl, Or.inl ⟨rfl, Or.inl (by omega)⟩⟩ (by decide) (by decide)
      · refine r_iloadN X (pc' := 25) d_isTokenChar_24 rfl rfl ?_
        refine r_bipush X (pc' := 27) (v := (48 : Int32)) d_isTokenChar_25 rfl rfl ?_
        refine r_icmp X (pc' := 36) (pc2 := 30) d_isTokenChar_27 (by decide) (by decide) rfl (a := p1.toInt) (b := 48) rfl rfl (fun (cq105 : p1.toInt < 48) => ?_) (fun (cq105 : ¬ (p1.toInt < 48)) => ?_)
        · refine r_ldcS X Wd (pc' := 38) (us := own_us) (N := 15) (nn := 60) d_isTokenChar_36 (wd hw 5 rfl) (own_atoms hw) (own_EW hw) (List.mem_of_getElem? (i := 0) rfl) ⟨by decide, rfl⟩ rfl (by decide) (by decide) (by decide) (by decide) (by decide) rfl (fun a106 b107 vm108 T109 h110 X111 Wd112 E113 Ea114 Fc115 Fv116 A117 => ?_)
          refine r_iloadN X111 (pc' := 39) d_isTokenChar_38 rfl rfl ?_
          refine r_callV X111 (pc' := 42) d_isTokenChar_39 (con_i1 l Z a0 hw a106 b107 p1 cs own_f h110 n0 X111.sz (S0.ext E113) hcs Ea114 Fc115 Fv116 A117 hp1) Ea114 (wd hw 13 rfl) (wd hw 14 rfl) (wd hw 16 rfl) (wd hw 15 rfl) (wd hw 6 rfl) (wd hw 17 rfl) (by decide) (argsL := [(.int p1)]) (rest := []) (W := 0) rfl rfl pd_indexOf rfl rfl (by decide) (by decide) (by decide) (by decide) rfl (fun v118 T119 h120 X121 QQ122 => ?_)
          obtain ⟨⟨z1, rfl, hz1⟩, rfl⟩ := QQ122
          show Run p e below _ _ (mkF m 42 #[.val (.int p1)] [(.int z1)])
          refine r_if X121 (pc' := 49) (pc2 := 45) d_isTokenChar_42 (by decide) (by decide) rfl (a := z1.toInt) (b := 0) rfl rfl (fun (cq123 : z1.toInt < 0) => ?_) (fun (cq123 : ¬ (z1.toInt < 0)) => ?_)
          · have ntok : ¬ (p1.toInt ≤ 255 ∧ ∃ j, j < 15 ∧ (own_f j).toInt = (own_b p1).toInt) := hz1.elim (fun w => absurd w.1 (by omega)) (fun w => w.2)
            refine r_iconst X121 (pc' := 50) (v := (0 : Int32)) d_isTokenChar_49 rfl rfl ?_
            exact r_retNW X121 Wd112 (own_EW hw) (by simp) d_isTokenChar_50 (z := (0 : Int32)) (w := (0 : Int32)) rfl ⟨_, rfl, Or.inr ⟨rfl, fun u => u.elim (fun u1 => by omega) (fun u2 => ntok u2)⟩⟩ (by decide) (by decide)
          · have tok : (p1.toInt ≤ 255 ∧ ∃ j, j < 15 ∧ (own_f j).toInt = (own_b p1).toInt) := hz1.elim (fun w => w.2) (fun w => absurd w.1 (by omega))
            refine r_iconst X121 (pc' := 46) (v := (1 : Int32)) d_isTokenChar_45 rfl rfl ?_
            refine r_goto X121 (pc' := 50) d_isTokenChar_46 (by decide) (by decide) ?_
            exact r_retNW X121 Wd112 (own_EW hw) (by simp) d_isTokenChar_50 (z := (1 : Int32)) (w := (1 : Int32)) rfl ⟨_, rfl, Or.inl ⟨rfl, Or.inr tok⟩⟩ (by decide) (by decide)
        · refine r_iloadN X (pc' := 31) d_isTokenChar_30 rfl rfl ?_
          refine r_bipush X (pc' := 33) (v := (57 : Int32)) d_isTokenChar_31 rfl rfl ?_
          refine r_icmp X (pc' := 45) (pc2 := 36) d_isTokenChar_33 (by decide) (by decide) rfl (a := p1.toInt) (b := 57) rfl rfl (fun (cq124 : p1.toInt ≤ 57) => ?_) (fun (cq124 : ¬ (p1.toInt ≤ 57)) => ?_)
          · refine r_iconst X (pc' := 46) (v := (1 : Int32)) d_isTokenChar_45 rfl rfl ?_
            refine r_goto X (pc' := 50) d_isTokenChar_46 (by decide) (by decide) ?_
            exact r_retNW X Wd (own_EW hw) (by simp) d_isTokenChar_50 (z := (1 : Int32)) (w := (1 : Int32)) rfl ⟨_, rfl, Or.inl ⟨rfl, Or.inl (by omega)⟩⟩ (by decide) (by decide)
          · refine r_ldcS X Wd (pc' := 38) (us := own_us) (N := 15) (nn := 60) d_isTokenChar_36 (wd hw 5 rfl) (own_atoms hw) (own_EW hw) (List.mem_of_getElem? (i := 0) rfl) ⟨by decide, rfl⟩ rfl (by decide) (by decide) (by decide) (by decide) (by decide) rfl (fun a125 b126 vm127 T128 h129 X130 Wd131 E132 Ea133 Fc134 Fv135 A136 => ?_)
            refine r_iloadN X130 (pc' := 39) d_isTokenChar_38 rfl rfl ?_
            refine r_callV X130 (pc' := 42) d_isTokenChar_39 (con_i1 l Z a0 hw a125 b126 p1 cs own_f h129 n0 X130.sz (S0.ext E132) hcs Ea133 Fc134 Fv135 A136 hp1) Ea133 (wd hw 13 rfl) (wd hw 14 rfl) (wd hw 16 rfl) (wd hw 15 rfl) (wd hw 6 rfl) (wd hw 17 rfl) (by decide) (argsL := [(.int p1)]) (rest := []) (W := 0) rfl rfl pd_indexOf rfl rfl (by decide) (by decide) (by decide) (by decide) rfl (fun v137 T138 h139 X140 QQ141 => ?_)
            obtain ⟨⟨z1, rfl, hz1⟩, rfl⟩ := QQ141
            show Run p e below _ _ (mkF m 42 #[.val (.int p1)] [(.int z1)])
            refine r_if X140 (pc' := 49) (pc2 := 45) d_isTokenChar_42 (by decide) (by decide) rfl (a := z1.toInt) (b := 0) rfl rfl (fun (cq142 : z1.toInt < 0) => ?_) (fun (cq142 : ¬ (z1.toInt < 0)) => ?_)
            · have ntok : ¬ (p1.toInt ≤ 255 ∧ ∃ j, j < 15 ∧ (own_f j).toInt = (own_b p1).toInt) := hz1.elim (fun w => absurd w.1 (by omega)) (fun w => w.2)
              refine r_iconst X140 (pc' := 50) (v := (0 : Int32)) d_isTokenChar_49 rfl rfl ?_
              exact r_retNW X140 Wd131 (own_EW hw) (by simp) d_isTokenChar_50 (z := (0 : Int32)) (w := (0 : Int32)) rfl ⟨_, rfl, Or.inr ⟨rfl, fun u => u.elim (fun u1 => by omega) (fun u2 => ntok u2)⟩⟩ (by decide) (by decide)
            · have tok : (p1.toInt ≤ 255 ∧ ∃ j, j < 15 ∧ (own_f j).toInt = (own_b p1).toInt) := hz1.elim (fun w => w.2) (fun w => absurd w.1 (by omega))
              refine r_iconst X140 (pc' := 46) (v := (1 : Int32)) d_isTokenChar_45 rfl rfl ?_
              refine r_goto X140 (pc' := 50) d_isTokenChar_46 (by decide) (by decide) ?_
              exact r_retNW X140 Wd131 (own_EW hw) (by simp) d_isTokenChar_50 (z := (1 : Int32)) (w := (1 : Int32)) rfl ⟨_, rfl, Or.inl ⟨rfl, Or.inr tok⟩⟩ (by decide) (by decide)
  · refine r_iloadN X (pc' := 7) d_isTokenChar_6 rfl rfl ?_
    refine r_bipush X (pc' := 9) (v := (122 : Int32)) d_isTokenChar_7 rfl rfl ?_
    refine r_icmp X (pc' := 45) (pc2 := 12) d_isTokenChar_9 (by decide) (by decide) rfl (a := p1.toInt) (b := 122) rfl rfl (fun (cq143 : p1.toInt ≤ 122) => ?_) (fun (cq143 : ¬ (p1.toInt ≤ 122)) => ?_)
    · refine r_iconst X (pc' := 46) (v := (1 : Int32)) d_isTokenChar_45 rfl rfl ?_
      refine r_goto X (pc' := 50) d_isTokenChar_46 (by decide) (by decide) ?_
      exact r_retNW X Wd (own_EW hw) (by simp) d_isTokenChar_50 (z := (1 : Int32)) (w := (1 : Int32)) rfl ⟨_, rfl, Or.inl ⟨rfl, Or.inl (by omega)⟩⟩ (by decide) (by decide)
    · refine r_iloadN X (pc' := 13) d_isTokenChar_12 rfl rfl ?_
      refine r_bipush X (pc' := 15) (v := (65 : Int32)) d_isTokenChar_13 rfl rfl ?_
      refine r_icmp X (pc' := 24) (pc2 := 18) d_isTokenChar_15 (by decide) (by decide) rfl (a := p1.toInt) (b := 65) rfl rfl (fun (cq144 : p1.toInt < 65) => ?_) (fun (cq144 : ¬ (p1.toInt < 65)) => ?_)
      · refine r_iloadN X (pc' := 25) d_isTokenChar_24 rfl rfl ?_
        refine r_bipush X (pc' := 27) (v := (48 : Int32)) d_isTokenChar_25 rfl rfl ?_
        refine r_icmp X (pc' := 36) (pc2 := 30) d_isTokenChar_27 (by decide) (by decide) rfl (a := p1.toInt) (b := 48) rfl rfl (fun (cq145 : p1.toInt < 48) => ?_) (fun (cq145 : ¬ (p1.toInt < 48)) => ?_)
        · refine r_ldcS X Wd (pc' := 38) (us := own_us) (N := 15) (nn := 60) d_isTokenChar_36 (wd hw 5 rfl) (own_atoms hw) (own_EW hw) (List.mem_of_getElem? (i := 0) rfl) ⟨by decide, rfl⟩ rfl (by decide) (by decide) (by decide) (by decide) (by decide) rfl (fun a146 b147 vm148 T149 h150 X151 Wd152 E153 Ea154 Fc155 Fv156 A157 => ?_)
          refine r_iloadN X151 (pc' := 39) d_isTokenChar_38 rfl rfl ?_
          refine r_callV X151 (pc' := 42) d_isTokenChar_39 (con_i1 l Z a0 hw a146 b147 p1 cs own_f h150 n0 X151.sz (S0.ext E153) hcs Ea154 Fc155 Fv156 A157 hp1) Ea154 (wd hw 13 rfl) (wd hw 14 rfl) (wd hw 16 rfl) (wd hw 15 rfl) (wd hw 6 rfl) (wd hw 17 rfl) (by decide) (argsL := [(.int p1)]) (rest := []) (W := 0) rfl rfl pd_indexOf rfl rfl (by decide) (by decide) (by decide) (by decide) rfl (fun v158 T159 h160 X161 QQ162 => ?_)
          obtain ⟨⟨z1, rfl, hz1⟩, rfl⟩ := QQ162
          show Run p e below _ _ (mkF m 42 #[.val (.int p1)] [(.int z1)])
          refine r_if X161 (pc' := 49) (pc2 := 45) d_isTokenChar_42 (by decide) (by decide) rfl (a := z1.toInt) (b := 0) rfl rfl (fun (cq163 : z1.toInt < 0) => ?_) (fun (cq163 : ¬ (z1.toInt < 0)) => ?_)
          · have ntok : ¬ (p1.toInt ≤ 255 ∧ ∃ j, j < 15 ∧ (own_f j).toInt = (own_b p1).toInt) := hz1.elim (fun w => absurd w.1 (by omega)) (fun w => w.2)
            refine r_iconst X161 (pc' := 50) (v := (0 : Int32)) d_isTokenChar_49 rfl rfl ?_
            exact r_retNW X161 Wd152 (own_EW hw) (by simp) d_isTokenChar_50 (z := (0 : Int32)) (w := (0 : Int32)) rfl ⟨_, rfl, Or.inr ⟨rfl, fun u => u.elim (fun u1 => by omega) (fun u2 => ntok u2)⟩⟩ (by decide) (by decide)
          · have tok : (p1.toInt ≤ 255 ∧ ∃ j, j < 15 ∧ (own_f j).toInt = (own_b p1).toInt) := hz1.elim (fun w => w.2) (fun w => absurd w.1 (by omega))
            refine r_iconst X161 (pc' := 46) (v := (1 : Int32)) d_isTokenChar_45 rfl rfl ?_
            refine r_goto X161 (pc' := 50) d_isTokenChar_46 (by decide) (by decide) ?_
            exact r_retNW X161 Wd152 (own_EW hw) (by simp) d_isTokenChar_50 (z := (1 : Int32)) (w := (1 : Int32)) rfl ⟨_, rfl, Or.inl ⟨rfl, Or.inr tok⟩⟩ (by decide) (by decide)
        · refine r_iloadN X (pc' := 31) d_isTokenChar_30 rfl rfl ?_
          refine r_bipush X (pc' := 33) (v := (57 : Int32)) d_isTokenChar_31 rfl rfl ?_
          refine r_icmp X (pc' := 45) (pc2 := 36) d_isTokenChar_33 (by decide) (by decide) rfl (a := p1.toInt) (b := 57) rfl rfl (fun (cq164 : p1.toInt ≤ 57) => ?_) (fun (cq164 : ¬ (p1.toInt ≤ 57)) => ?_)
          · refine r_iconst X (pc' := 46) (v := (1 : Int32)) d_isTokenChar_45 rfl rfl ?_
            refine r_goto X (pc' := 50) d_isTokenChar_46 (by decide) (by decide) ?_
            exact r_retNW X Wd (own_EW hw) (by simp) d_isTokenChar_50 (z := (1 : Int32)) (w := (1 : Int32)) rfl ⟨_, rfl, Or.inl ⟨rfl, Or.inl (by omega)⟩⟩ (by decide) (by decide)
          · refine r_ldcS X Wd (pc' := 38) (us := own_us) (N := 15) (nn := 60) d_isTokenChar_36 (wd hw 5 rfl) (own_atoms hw) (own_EW hw) (List.mem_of_getElem? (i := 0) rfl) ⟨by decide, rfl⟩ rfl (by decide) (by decide) (by decide) (by decide) (by decide) rfl (fun a165 b166 vm167 T168 h169 X170 Wd171 E172 Ea173 Fc174 Fv175 A176 => ?_)
            refine r_iloadN X170 (pc' := 39) d_isTokenChar_38 rfl rfl ?_
            refine r_callV X170 (pc' := 42) d_isTokenChar_39 (con_i1 l Z a0 hw a165 b166 p1 cs own_f h169 n0 X170.sz (S0.ext E172) hcs Ea173 Fc174 Fv175 A176 hp1) Ea173 (wd hw 13 rfl) (wd hw 14 rfl) (wd hw 16 rfl) (wd hw 15 rfl) (wd hw 6 rfl) (wd hw 17 rfl) (by decide) (argsL := [(.int p1)]) (rest := []) (W := 0) rfl rfl pd_indexOf rfl rfl (by decide) (by decide) (by decide) (by decide) rfl (fun v177 T178 h179 X180 QQ181 => ?_)
            obtain ⟨⟨z1, rfl, hz1⟩, rfl⟩ := QQ181
            show Run p e below _ _ (mkF m 42 #[.val (.int p1)] [(.int z1)])
            refine r_if X180 (pc' := 49) (pc2 := 45) d_isTokenChar_42 (by decide) (by decide) rfl (a := z1.toInt) (b := 0) rfl rfl (fun (cq182 : z1.toInt < 0) => ?_) (fun (cq182 : ¬ (z1.toInt < 0)) => ?_)
            · have ntok : ¬ (p1.toInt ≤ 255 ∧ ∃ j, j < 15 ∧ (own_f j).toInt = (own_b p1).toInt) := hz1.elim (fun w => absurd w.1 (by omega)) (fun w => w.2)
              refine r_iconst X180 (pc' := 50) (v := (0 : Int32)) d_isTokenChar_49 rfl rfl ?_
              exact r_retNW X180 Wd171 (own_EW hw) (by simp) d_isTokenChar_50 (z := (0 : Int32)) (w := (0 : Int32)) rfl ⟨_, rfl, Or.inr ⟨rfl, fun u => u.elim (fun u1 => by omega) (fun u2 => ntok u2)⟩⟩ (by decide) (by decide)
            · have tok : (p1.toInt ≤ 255 ∧ ∃ j, j < 15 ∧ (own_f j).toInt = (own_b p1).toInt) := hz1.elim (fun w => w.2) (fun w => absurd w.1 (by omega))
              refine r_iconst X180 (pc' := 46) (v := (1 : Int32)) d_isTokenChar_45 rfl rfl ?_
              refine r_goto X180 (pc' := 50) d_isTokenChar_46 (by decide) (by decide) ?_
              exact r_retNW X180 Wd171 (own_EW hw) (by simp) d_isTokenChar_50 (z := (1 : Int32)) (w := (1 : Int32)) rfl ⟨_, rfl, Or.inl ⟨rfl, Or.inr tok⟩⟩ (by decide) (by decide)
      · refine r_iloadN X (pc' := 19) d_isTokenChar_18 rfl rfl ?_
        refine r_bipush X (pc' := 21) (v := (90 : Int32)) d_isTokenChar_19 rfl rfl ?_
        refine r_icmp X (pc' := 45) (pc2 := 24) d_isTokenChar_21 (by decide) (by decide) rfl (a := p1.toInt) (b := 90) rfl rfl (fun (cq183 : p1.toInt ≤ 90) => ?_) (fun (cq183 : ¬ (p1.toInt ≤ 90)) => ?_)
        · refine r_iconst X (pc' := 46) (v := (1 : Int32)) d_isTokenChar_45 rfl rfl ?_
          refine r_goto X (pc' := 50) d_isTokenChar_46 (by decide) (by decide) ?_
          exact r_retNW X Wd (own_EW hw) (by simp) d_isTokenChar_50 (z := (1 : Int32)) (w := (1 : Int32)) rfl ⟨_, rfl, Or.inl ⟨rfl, Or.inl (by omega)⟩⟩ (by decide) (by decide)
        · refine r_iloadN X (pc' := 25) d_isTokenChar_24 rfl rfl ?_
          refine r_bipush X (pc' := 27) (v := (48 : Int32)) d_isTokenChar_25 rfl rfl ?_
          refine r_icmp X (pc' := 36) (pc2 := 30) d_isTokenChar_27 (by decide) (by decide) rfl (a := p1.toInt) (b := 48) rfl rfl (fun (cq184 : p1.toInt < 48) => ?_) (fun (cq184 : ¬ (p1.toInt < 48)) => ?_)
          · refine r_ldcS X Wd (pc' := 38) (us := own_us) (N := 15) (nn := 60) d_isTokenChar_36 (wd hw 5 rfl) (own_atoms hw) (own_EW hw) (List.mem_of_getElem? (i := 0) rfl) ⟨by decide, rfl⟩ rfl (by decide) (by decide) (by decide) (by decide) (by decide) rfl (fun a185 b186 vm187 T188 h189 X190 Wd191 E192 Ea193 Fc194 Fv195 A196 => ?_)
            refine r_iloadN X190 (pc' := 39) d_isTokenChar_38 rfl rfl ?_
            refine r_callV X190 (pc' := 42) d_isTokenChar_39 (con_i1 l Z a0 hw a185 b186 p1 cs own_f h189 n0 X190.sz (S0.ext E192) hcs Ea193 Fc194 Fv195 A196 hp1) Ea193 (wd hw 13 rfl) (wd hw 14 rfl) (wd hw 16 rfl) (wd hw 15 rfl) (wd hw 6 rfl) (wd hw 17 rfl) (by decide) (argsL := [(.int p1)]) (rest := []) (W := 0) rfl rfl pd_indexOf rfl rfl (by decide) (by decide) (by decide) (by decide) rfl (fun v197 T198 h199 X200 QQ201 => ?_)
            obtain ⟨⟨z1, rfl, hz1⟩, rfl⟩ := QQ201
            show Run p e below _ _ (mkF m 42 #[.val (.int p1)] [(.int z1)])
            refine r_if X200 (pc' := 49) (pc2 := 45) d_isTokenChar_42 (by decide) (by decide) rfl (a := z1.toInt) (b := 0) rfl rfl (fun (cq202 : z1.toInt < 0) => ?_) (fun (cq202 : ¬ (z1.toInt < 0)) => ?_)
            · have ntok : ¬ (p1.toInt ≤ 255 ∧ ∃ j, j < 15 ∧ (own_f j).toInt = (own_b p1).toInt) := hz1.elim (fun w => absurd w.1 (by omega)) (fun w => w.2)
              refine r_iconst X200 (pc' := 50) (v := (0 : Int32)) d_isTokenChar_49 rfl rfl ?_
              exact r_retNW X200 Wd191 (own_EW hw) (by simp) d_isTokenChar_50 (z := (0 : Int32)) (w := (0 : Int32)) rfl ⟨_, rfl, Or.inr ⟨rfl, fun u => u.elim (fun u1 => by omega) (fun u2 => ntok u2)⟩⟩ (by decide) (by decide)
            · have tok : (p1.toInt ≤ 255 ∧ ∃ j, j < 15 ∧ (own_f j).toInt = (own_b p1).toInt) := hz1.elim (fun w => w.2) (fun w => absurd w.1 (by omega))
              refine r_iconst X200 (pc' := 46) (v := (1 : Int32)) d_isTokenChar_45 rfl rfl ?_
              refine r_goto X200 (pc' := 50) d_isTokenChar_46 (by decide) (by decide) ?_
              exact r_retNW X200 Wd191 (own_EW hw) (by simp) d_isTokenChar_50 (z := (1 : Int32)) (w := (1 : Int32)) rfl ⟨_, rfl, Or.inl ⟨rfl, Or.inr tok⟩⟩ (by decide) (by decide)
          · refine r_iloadN X (pc' := 31) d_isTokenChar_30 rfl rfl ?_
            refine r_bipush X (pc' := 33) (v := (57 : Int32)) d_isTokenChar_31 rfl rfl ?_
            refine r_icmp X (pc' := 45) (pc2 := 36) d_isTokenChar_33 (by decide) (by decide) rfl (a := p1.toInt) (b := 57) rfl rfl (fun (cq203 : p1.toInt ≤ 57) => ?_) (fun (cq203 : ¬ (p1.toInt ≤ 57)) => ?_)
            · refine r_iconst X (pc' := 46) (v := (1 : Int32)) d_isTokenChar_45 rfl rfl ?_
              refine r_goto X (pc' := 50) d_isTokenChar_46 (by decide) (by decide) ?_
              exact r_retNW X Wd (own_EW hw) (by simp) d_isTokenChar_50 (z := (1 : Int32)) (w := (1 : Int32)) rfl ⟨_, rfl, Or.inl ⟨rfl, Or.inl (by omega)⟩⟩ (by decide) (by decide)
            · refine r_ldcS X Wd (pc' := 38) (us := own_us) (N := 15) (nn := 60) d_isTokenChar_36 (wd hw 5 rfl) (own_atoms hw) (own_EW hw) (List.mem_of_getElem? (i := 0) rfl) ⟨by decide, rfl⟩ rfl (by decide) (by decide) (by decide) (by decide) (by decide) rfl (fun a204 b205 vm206 T207 h208 X209 Wd210 E211 Ea212 Fc213 Fv214 A215 => ?_)
              refine r_iloadN X209 (pc' := 39) d_isTokenChar_38 rfl rfl ?_
              refine r_callV X209 (pc' := 42) d_isTokenChar_39 (con_i1 l Z a0 hw a204 b205 p1 cs own_f h208 n0 X209.sz (S0.ext E211) hcs Ea212 Fc213 Fv214 A215 hp1) Ea212 (wd hw 13 rfl) (wd hw 14 rfl) (wd hw 16 rfl) (wd hw 15 rfl) (wd hw 6 rfl) (wd hw 17 rfl) (by decide) (argsL := [(.int p1)]) (rest := []) (W := 0) rfl rfl pd_indexOf rfl rfl (by decide) (by decide) (by decide) (by decide) rfl (fun v216 T217 h218 X219 QQ220 => ?_)
              obtain ⟨⟨z1, rfl, hz1⟩, rfl⟩ := QQ220
              show Run p e below _ _ (mkF m 42 #[.val (.int p1)] [(.int z1)])
              refine r_if X219 (pc' := 49) (pc2 := 45) d_isTokenChar_42 (by decide) (by decide) rfl (a := z1.toInt) (b := 0) rfl rfl (fun (cq221 : z1.toInt < 0) => ?_) (fun (cq221 : ¬ (z1.toInt < 0)) => ?_)
              · have ntok : ¬ (p1.toInt ≤ 255 ∧ ∃ j, j < 15 ∧ (own_f j).toInt = (own_b p1).toInt) := hz1.elim (fun w => absurd w.1 (by omega)) (fun w => w.2)
                refine r_iconst X219 (pc' := 50) (v := (0 : Int32)) d_isTokenChar_49 rfl rfl ?_
                exact r_retNW X219 Wd210 (own_EW hw) (by simp) d_isTokenChar_50 (z := (0 : Int32)) (w := (0 : Int32)) rfl ⟨_, rfl, Or.inr ⟨rfl, fun u => u.elim (fun u1 => by omega) (fun u2 => ntok u2)⟩⟩ (by decide) (by decide)
              · have tok : (p1.toInt ≤ 255 ∧ ∃ j, j < 15 ∧ (own_f j).toInt = (own_b p1).toInt) := hz1.elim (fun w => w.2) (fun w => absurd w.1 (by omega))
                refine r_iconst X219 (pc' := 46) (v := (1 : Int32)) d_isTokenChar_45 rfl rfl ?_
                refine r_goto X219 (pc' := 50) d_isTokenChar_46 (by decide) (by decide) ?_
                exact r_retNW X219 Wd210 (own_EW hw) (by simp) d_isTokenChar_50 (z := (1 : Int32)) (w := (1 : Int32)) rfl ⟨_, rfl, Or.inl ⟨rfl, Or.inr tok⟩⟩ (by decide) (by decide)
set_option maxRecDepth 65536 in
set_option maxHeartbeats 40000000 in
theorem con_de (l : Launch) (Z : State) (a0 : Array Value) (hw : ∀ d ∈ tables_1, d.before a0 Z = true) (p1 : Int32) (h0 : Heap) (n0 : Nat) (Z0 : n0 ≤ h0.size)  : Con l Z (⟨"com/example/nestful/nestful/header/FieldTextIsTokenCharPinLaw", "delimiter", "(I)Z"⟩ : MethodName) method_2_code 1 (some .boolean) ({ frames := 0, cells := 0, slots := 0, locals := 0 } : Room) #[(.int p1)] h0 n0 0 0 (fun v h => (∃ z : Int32, v = some (.int z) ∧ (z.toInt = 1 ∧ (p1.toInt = 34 ∨ p1.toInt = 40 ∨ p1.toInt = 41 ∨ p1.toInt = 44 ∨ p1.toInt = 47 ∨ (58 ≤ p1.toInt ∧ p1.toInt ≤ 64) ∨ (91 ≤ p1.toInt ∧ p1.toInt ≤ 93) ∨ p1.toInt = 123 ∨ p1.toInt = 125) ∨ z.toInt = 0 ∧ ¬ (p1.toInt = 34 ∨ p1.toInt = 40 ∨ p1.toInt = 41 ∨ p1.toInt = 44 ∨ p1.toInt = 47 ∨ (58 ≤ p1.toInt ∧ p1.toInt ≤ 64) ∨ (91 ≤ p1.toInt ∧ p1.toInt ≤ 93) ∨ p1.toInt = 123 ∨ p1.toInt = 125))) ∧ h0 = h) := by
  refine Con.of_body (ls := #[.val (.int p1)]) pn_com_example_nestful_nestful_header_FieldTextIsTokenCharPinLaw (fun m => by first | (simp [entryFrame, mkF, argsToLocals, Value.category]; done) | rfl) Z0 (fun p e s m below meth c T (X : Here p l e ({ frames := 0, cells := 0, slots := 0, locals := 0 } : Room) s m #[(.int p1)] below meth c Z "com/example/nestful/nestful/header/FieldTextIsTokenCharPinLaw" "delimiter" method_2_code 1 (some .boolean) n0 T h0 0 0) => ?_)
  refine r_iloadN X (pc' := 1) d_delimiter_0 rfl rfl ?_
  refine r_bipush X (pc' := 3) (v := (34 : Int32)) d_delimiter_1 rfl rfl ?_
  refine r_icmp X (pc' := 66) (pc2 := 6) d_delimiter_3 (by decide) (by decide) rfl (a := p1.toInt) (b := 34) rfl rfl (fun (cq222 : p1.toInt = 34) => ?_) (fun (cq222 : ¬ (p1.toInt = 34)) => ?_)
  · refine r_iconst X (pc' := 67) (v := (1 : Int32)) d_delimiter_66 rfl rfl ?_
    refine r_goto X (pc' := 71) d_delimiter_67 (by decide) (by decide) ?_
    exact r_retN X (by simp) d_delimiter_71 (z := (1 : Int32)) (w := (1 : Int32)) rfl ⟨⟨_, rfl, Or.inl ⟨rfl, by omega⟩⟩, rfl⟩ (by decide) (by decide)
  · refine r_iloadN X (pc' := 7) d_delimiter_6 rfl rfl ?_
    refine r_bipush X (pc' := 9) (v := (40 : Int32)) d_delimiter_7 rfl rfl ?_
    refine r_icmp X (pc' := 66) (pc2 := 12) d_delimiter_9 (by decide) (by decide) rfl (a := p1.toInt) (b := 40) rfl rfl (fun (cq223 : p1.toInt = 40) => ?_) (fun (cq223 : ¬ (p1.toInt = 40)) => ?_)
    · refine r_iconst X (pc' := 67) (v := (1 : Int32)) d_delimiter_66 rfl rfl ?_
      refine r_goto X (pc' := 71) d_delimiter_67 (by decide) (by decide) ?_
      exact r_retN X (by simp) d_delimiter_71 (z := (1 : Int32)) (w := (1 : Int32)) rfl ⟨⟨_, rfl, Or.inl ⟨rfl, by omega⟩⟩, rfl⟩ (by decide) (by decide)
    · refine r_iloadN X (pc' := 13) d_delimiter_12 rfl rfl ?_
      refine r_bipush X (pc' := 15) (v := (41 : Int32)) d_delimiter_13 rfl rfl ?_
      refine r_icmp X (pc' := 66) (pc2 := 18) d_delimiter_15 (by decide) (by decide) rfl (a := p1.toInt) (b := 41) rfl rfl (fun (cq224 : p1.toInt = 41) => ?_) (fun (cq224 : ¬ (p1.toInt = 41)) => ?_)
      · refine r_iconst X (pc' := 67) (v := (1 : Int32)) d_delimiter_66 rfl rfl ?_
        refine r_goto X (pc' := 71) d_delimiter_67 (by decide) (by decide) ?_
        exact r_retN X (by simp) d_delimiter_71 (z := (1 : Int32)) (w := (1 : Int32)) rfl ⟨⟨_, rfl, Or.inl ⟨rfl, by omega⟩⟩, rfl⟩ (by decide) (by decide)
      · refine r_iloadN X (pc' := 19) d_delimiter_18 rfl rfl ?_
        refine r_bipush X (pc' := 21) (v := (44 : Int32)) d_delimiter_19 rfl rfl ?_
        refine r_icmp X (pc' := 66) (pc2 := 24) d_delimiter_21 (by decide) (by decide) rfl (a := p1.toInt) (b := 44) rfl rfl (fun (cq225 : p1.toInt = 44) => ?_) (fun (cq225 : ¬ (p1.toInt = 44)) => ?_)
        · refine r_iconst X (pc' := 67) (v := (1 : Int32)) d_delimiter_66 rfl rfl ?_
          refine r_goto X (pc' := 71) d_delimiter_67 (by decide) (by decide) ?_
          exact r_retN X (by simp) d_delimiter_71 (z := (1 : Int32)) (w := (1 : Int32)) rfl ⟨⟨_, rfl, Or.inl ⟨rfl, by omega⟩⟩, rfl⟩ (by decide) (by decide)
        · refine r_iloadN X (pc' := 25) d_delimiter_24 rfl rfl ?_
          refine r_bipush X (pc' := 27) (v := (47 : Int32)) d_delimiter_25 rfl rfl ?_
          refine r_icmp X (pc' := 66) (pc2 := 30) d_delimiter_27 (by decide) (by decide) rfl (a := p1.toInt) (b := 47) rfl rfl (fun (cq226 : p1.toInt = 47) => ?_) (fun (cq226 : ¬ (p1.toInt = 47)) => ?_)
          · refine r_iconst X (pc' := 67) (v := (1 : Int32)) d_delimiter_66 rfl rfl ?_
            refine r_goto X (pc' := 71) d_delimiter_67 (by decide) (by decide) ?_
            exact r_retN X (by simp) d_delimiter_71 (z := (1 : Int32)) (w := (1 : Int32)) rfl ⟨⟨_, rfl, Or.inl ⟨rfl, by omega⟩⟩, rfl⟩ (by decide) (by decide)
          · refine r_iloadN X (pc' := 31) d_delimiter_30 rfl rfl ?_
            refine r_bipush X (pc' := 33) (v := (58 : Int32)) d_delimiter_31 rfl rfl ?_
            refine r_icmp X (pc' := 42) (pc2 := 36) d_delimiter_33 (by decide) (by decide) rfl (a := p1.toInt) (b := 58) rfl rfl (fun (cq227 : p1.toInt < 58) => ?_) (fun (cq227 : ¬ (p1.toInt < 58)) => ?_)
            · refine r_iloadN X (pc' := 43) d_delimiter_42 rfl rfl ?_
              refine r_bipush X (pc' := 45) (v := (91 : Int32)) d_delimiter_43 rfl rfl ?_
              refine r_icmp X (pc' := 54) (pc2 := 48) d_delimiter_45 (by decide) (by decide) rfl (a := p1.toInt) (b := 91) rfl rfl (fun (cq228 : p1.toInt < 91) => ?_) (fun (cq228 : ¬ (p1.toInt < 91)) => ?_)
              · refine r_iloadN X (pc' := 55) d_delimiter_54 rfl rfl ?_
                refine r_bipush X (pc' := 57) (v := (123 : Int32)) d_delimiter_55 rfl rfl ?_
                refine r_icmp X (pc' := 66) (pc2 := 60) d_delimiter_57 (by decide) (by decide) rfl (a := p1.toInt) (b := 123) rfl rfl (fun (cq229 : p1.toInt = 123) => ?_) (fun (cq229 : ¬ (p1.toInt = 123)) => ?_)
                · refine r_iconst X (pc' := 67) (v := (1 : Int32)) d_delimiter_66 rfl rfl ?_
                  refine r_goto X (pc' := 71) d_delimiter_67 (by decide) (by decide) ?_
                  exact r_retN X (by simp) d_delimiter_71 (z := (1 : Int32)) (w := (1 : Int32)) rfl ⟨⟨_, rfl, Or.inl ⟨rfl, by omega⟩⟩, rfl⟩ (by decide) (by decide)
                · refine r_iloadN X (pc' := 61) d_delimiter_60 rfl rfl ?_
                  refine r_bipush X (pc' := 63) (v := (125 : Int32)) d_delimiter_61 rfl rfl ?_
                  refine r_icmp X (pc' := 70) (pc2 := 66) d_delimiter_63 (by decide) (by decide) rfl (a := p1.toInt) (b := 125) rfl rfl (fun (cq230 : ¬ p1.toInt = 125) => ?_) (fun (cq230 : ¬ (¬ p1.toInt = 125)) => ?_)
                  · refine r_iconst X (pc' := 71) (v := (0 : Int32)) d_delimiter_70 rfl rfl ?_
                    exact r_retN X (by simp) d_delimiter_71 (z := (0 : Int32)) (w := (0 : Int32)) rfl ⟨⟨_, rfl, Or.inr ⟨rfl, by omega⟩⟩, rfl⟩ (by decide) (by decide)
                  · refine r_iconst X (pc' := 67) (v := (1 : Int32)) d_delimiter_66 rfl rfl ?_
                    refine r_goto X (pc' := 71) d_delimiter_67 (by decide) (by decide) ?_
                    exact r_retN X (by simp) d_delimiter_71 (z := (1 : Int32)) (w := (1 : Int32)) rfl ⟨⟨_, rfl, Or.inl ⟨rfl, by omega⟩⟩, rfl⟩ (by decide) (by decide)
              · refine r_iloadN X (pc' := 49) d_delimiter_48 rfl rfl ?_
                refine r_bipush X (pc' := 51) (v := (93 : Int32)) d_delimiter_49 rfl rfl ?_
                refine r_icmp X (pc' := 66) (pc2 := 54) d_delimiter_51 (by decide) (by decide) rfl (a := p1.toInt) (b := 93) rfl rfl (fun (cq231 : p1.toInt ≤ 93) => ?_) (fun (cq231 : ¬ (p1.toInt ≤ 93)) => ?_)
                · refine r_iconst X (pc' := 67) (v := (1 : Int32)) d_delimiter_66 rfl rfl ?_
                  refine r_goto X (pc' := 71) d_delimiter_67 (by decide) (by decide) ?_
                  exact r_retN X (by simp) d_delimiter_71 (z := (1 : Int32)) (w := (1 : Int32)) rfl ⟨⟨_, rfl, Or.inl ⟨rfl, by omega⟩⟩, rfl⟩ (by decide) (by decide)
                · refine r_iloadN X (pc' := 55) d_delimiter_54 rfl rfl ?_
                  refine r_bipush X (pc' := 57) (v := (123 : Int32)) d_delimiter_55 rfl rfl ?_
                  refine r_icmp X (pc' := 66) (pc2 := 60) d_delimiter_57 (by decide) (by decide) rfl (a := p1.toInt) (b := 123) rfl rfl (fun (cq232 : p1.toInt = 123) => ?_) (fun (cq232 : ¬ (p1.toInt = 123)) => ?_)
                  · refine r_iconst X (pc' := 67) (v := (1 : Int32)) d_delimiter_66 rfl rfl ?_
                    refine r_goto X (pc' := 71) d_delimiter_67 (by decide) (by decide) ?_
                    exact r_retN X (by simp) d_delimiter_71 (z := (1 : Int32)) (w := (1 : Int32)) rfl ⟨⟨_, rfl, Or.inl ⟨rfl, by omega⟩⟩, rfl⟩ (by decide) (by decide)
                  · refine r_iloadN X (pc' := 61) d_delimiter_60 rfl rfl ?_
                    refine r_bipush X (pc' := 63) (v := (125 : Int32)) d_delimiter_61 rfl rfl ?_
                    refine r_icmp X (pc' := 70) (pc2 := 66) d_delimiter_63 (by decide) (by decide) rfl (a := p1.toInt) (b := 125) rfl rfl (fun (cq233 : ¬ p1.toInt = 125) => ?_) (fun (cq233 : ¬ (¬ p1.toInt = 125)) => ?_)
                    · refine r_iconst X (pc' := 71) (v := (0 : Int32)) d_delimiter_70 rfl rfl ?_
                      exact r_retN X (by simp) d_delimiter_71 (z := (0 : Int32)) (w := (0 : Int32)) rfl ⟨⟨_, rfl, Or.inr ⟨rfl, by omega⟩⟩, rfl⟩ (by decide) (by decide)
                    · refine r_iconst X (pc' := 67) (v := (1 : Int32)) d_delimiter_66 rfl rfl ?_
                      refine r_goto X (pc' := 71) d_delimiter_67 (by decide) (by decide) ?_
                      exact r_retN X (by simp) d_delimiter_71 (z := (1 : Int32)) (w := (1 : Int32)) rfl ⟨⟨_, rfl, Or.inl ⟨rfl, by omega⟩⟩, rfl⟩ (by decide) (by decide)
            · refine r_iloadN X (pc' := 37) d_delimiter_36 rfl rfl ?_
              refine r_bipush X (pc' := 39) (v := (64 : Int32)) d_delimiter_37 rfl rfl ?_
              refine r_icmp X (pc' := 66) (pc2 := 42) d_delimiter_39 (by decide) (by decide) rfl (a := p1.toInt) (b := 64) rfl rfl (fun (cq234 : p1.toInt ≤ 64) => ?_) (fun (cq234 : ¬ (p1.toInt ≤ 64)) => ?_)
              · refine r_iconst X (pc' := 67) (v := (1 : Int32)) d_delimiter_66 rfl rfl ?_
                refine r_goto X (pc' := 71) d_delimiter_67 (by decide) (by decide) ?_
                exact r_retN X (by simp) d_delimiter_71 (z := (1 : Int32)) (w := (1 : Int32)) rfl ⟨⟨_, rfl, Or.inl ⟨rfl, by omega⟩⟩, rfl⟩ (by decide) (by decide)
              · refine r_iloadN X (pc' := 43) d_delimiter_42 rfl rfl ?_
                refine r_bipush X (pc' := 45) (v := (91 : Int32)) d_delimiter_43 rfl rfl ?_
                refine r_icmp X (pc' := 54) (pc2 := 48) d_delimiter_45 (by decide) (by decide) rfl (a := p1.toInt) (b := 91) rfl rfl (fun (cq235 : p1.toInt < 91) => ?_) (fun (cq235 : ¬ (p1.toInt < 91)) => ?_)
                · refine r_iloadN X (pc' := 55) d_delimiter_54 rfl rfl ?_
                  refine r_bipush X (pc' := 57) (v := (123 : Int32)) d_delimiter_55 rfl rfl ?_
                  refine r_icmp X (pc' := 66) (pc2 := 60) d_delimiter_57 (by decide) (by decide) rfl (a := p1.toInt) (b := 123) rfl rfl (fun (cq236 : p1.toInt = 123) => ?_) (fun (cq236 : ¬ (p1.toInt = 123)) => ?_)
                  · refine r_iconst X (pc' := 67) (v := (1 : Int32)) d_delimiter_66 rfl rfl ?_
                    refine r_goto X (pc' := 71) d_delimiter_67 (by decide) (by decide) ?_
                    exact r_retN X (by simp) d_delimiter_71 (z := (1 : Int32)) (w := (1 : Int32)) rfl ⟨⟨_, rfl, Or.inl ⟨rfl, by omega⟩⟩, rfl⟩ (by decide) (by decide)
                  · refine r_iloadN X (pc' := 61) d_delimiter_60 rfl rfl ?_
                    refine r_bipush X (pc' := 63) (v := (125 : Int32)) d_delimiter_61 rfl rfl ?_
                    refine r_icmp X (pc' := 70) (pc2 := 66) d_delimiter_63 (by decide) (by decide) rfl (a := p1.toInt) (b := 125) rfl rfl (fun (cq237 : ¬ p1.toInt = 125) => ?_) (fun (cq237 : ¬ (¬ p1.toInt = 125)) => ?_)
                    · refine r_iconst X (pc' := 71) (v := (0 : Int32)) d_delimiter_70 rfl rfl ?_
                      exact r_retN X (by simp) d_delimiter_71 (z := (0 : Int32)) (w := (0 : Int32)) rfl ⟨⟨_, rfl, Or.inr ⟨rfl, by omega⟩⟩, rfl⟩ (by decide) (by decide)
                    · refine r_iconst X (pc' := 67) (v := (1 : Int32)) d_delimiter_66 rfl rfl ?_
                      refine r_goto X (pc' := 71) d_delimiter_67 (by decide) (by decide) ?_
                      exact r_retN X (by simp) d_delimiter_71 (z := (1 : Int32)) (w := (1 : Int32)) rfl ⟨⟨_, rfl, Or.inl ⟨rfl, by omega⟩⟩, rfl⟩ (by decide) (by decide)
                · refine r_iloadN X (pc' := 49) d_delimiter_48 rfl rfl ?_
                  refine r_bipush X (pc' := 51) (v := (93 : Int32)) d_delimiter_49 rfl rfl ?_
                  refine r_icmp X (pc' := 66) (pc2 := 54) d_delimiter_51 (by decide) (by decide) rfl (a := p1.toInt) (b := 93) rfl rfl (fun (cq238 : p1.toInt ≤ 93) => ?_) (fun (cq238 : ¬ (p1.toInt ≤ 93)) => ?_)
                  · refine r_iconst X (pc' := 67) (v := (1 : Int32)) d_delimiter_66 rfl rfl ?_
                    refine r_goto X (pc' := 71) d_delimiter_67 (by decide) (by decide) ?_
                    exact r_retN X (by simp) d_delimiter_71 (z := (1 : Int32)) (w := (1 : Int32)) rfl ⟨⟨_, rfl, Or.inl ⟨rfl, by omega⟩⟩, rfl⟩ (by decide) (by decide)
                  · refine r_iloadN X (pc' := 55) d_delimiter_54 rfl rfl ?_
                    refine r_bipush X (pc' := 57) (v := (123 : Int32)) d_delimiter_55 rfl rfl ?_
                    refine r_icmp X (pc' := 66) (pc2 := 60) d_delimiter_57 (by decide) (by decide) rfl (a := p1.toInt) (b := 123) rfl rfl (fun (cq239 : p1.toInt = 123) => ?_) (fun (cq239 : ¬ (p1.toInt = 123)) => ?_)
                    · refine r_iconst X (pc' := 67) (v := (1 : Int32)) d_delimiter_66 rfl rfl ?_
                      refine r_goto X (pc' := 71) d_delimiter_67 (by decide) (by decide) ?_
                      exact r_retN X (by simp) d_delimiter_71 (z := (1 : Int32)) (w := (1 : Int32)) rfl ⟨⟨_, rfl, Or.inl ⟨rfl, by omega⟩⟩, rfl⟩ (by decide) (by decide)
                    · refine r_iloadN X (pc' := 61) d_delimiter_60 rfl rfl ?_
                      refine r_bipush X (pc' := 63) (v := (125 : Int32)) d_delimiter_61 rfl rfl ?_
                      refine r_icmp X (pc' := 70) (pc2 := 66) d_delimiter_63 (by decide) (by decide) rfl (a := p1.toInt) (b := 125) rfl rfl (fun (cq240 : ¬ p1.toInt = 125) => ?_) (fun (cq240 : ¬ (¬ p1.toInt = 125)) => ?_)
                      · refine r_iconst X (pc' := 71) (v := (0 : Int32)) d_delimiter_70 rfl rfl ?_
                        exact r_retN X (by simp) d_delimiter_71 (z := (0 : Int32)) (w := (0 : Int32)) rfl ⟨⟨_, rfl, Or.inr ⟨rfl, by omega⟩⟩, rfl⟩ (by decide) (by decide)
                      · refine r_iconst X (pc' := 67) (v := (1 : Int32)) d_delimiter_66 rfl rfl ?_
                        refine r_goto X (pc' := 71) d_delimiter_67 (by decide) (by decide) ?_
                        exact r_retN X (by simp) d_delimiter_71 (z := (1 : Int32)) (w := (1 : Int32)) rfl ⟨⟨_, rfl, Or.inl ⟨rfl, by omega⟩⟩, rfl⟩ (by decide) (by decide)
set_option maxRecDepth 65536 in
set_option maxHeartbeats 40000000 in
theorem con_law (l : Launch) (Z : State) (a0 : Array Value) (hw : ∀ d ∈ tables_1, d.before a0 Z = true) (p1 cs : Int32) (h0 : Heap) (n0 : Nat) (Z0 : n0 ≤ h0.size) (S0 : Sta Z h0 "java/lang/String" "COMPACT_STRINGS" "Z" (.int cs)) (hcs : ¬ cs.toInt = 0) : ConW l Z x code maxLocals ret room_1 #[(.int p1)] h0 n0 8 1088 consts_1 (fun v _ => v = some (.int 1)) := by
  refine ConW.of_body (ls := #[.val (.int p1), .unset, .unset, .unset]) pn_com_example_nestful_nestful_header_FieldTextIsTokenCharPinLaw (fun m => by first | (simp [entryFrame, mkF, argsToLocals, Value.category, maxLocals]; done) | rfl) Z0 (fun p e s m below meth c T Wd (X : Here p l e room_1 (s.setVm s.vm) m #[(.int p1)] below meth c Z "com/example/nestful/nestful/header/FieldTextIsTokenCharPinLaw" "law" code 4 (some .boolean) n0 T h0 0 0) => ?_)
  obtain ⟨vv, hvv⟩ : ∃ z, p1 &&& (65535 : Int32) = z := ⟨_, rfl⟩
  have kv : vv.toInt = p1.toInt % 65536 := by rw [← hvv]; exact Jvm.Kit.i32_mask p1 65535 (k := 16) (by decide) (by decide)
  obtain ⟨cc, hcc⟩ : ∃ z, vv.toUInt32.toUInt16.toUInt32.toInt32 = z := ⟨_, rfl⟩
  have kc : cc.toInt = vv.toInt % 65536 := by rw [← hcc]; exact n_i2c vv
  refine r_iloadN X (pc' := 1) at_0 rfl rfl ?_
  refine r_ldcI X (pc' := 3) (v := (65535 : Int32)) at_1 (wd hw 0 rfl) rfl ?_
  refine r_iand X (pc' := 4) (z := vv) at_3 hvv rfl ?_
  refine r_istoreN X (pc' := 5) (ls' := #[.val (.int p1), .val (.int vv), .unset, .unset]) at_4 rfl rfl ?_
  refine r_iloadN X (pc' := 6) at_5 rfl rfl ?_
  refine r_i2c X (pc' := 7) (z := cc) at_6 hcc rfl ?_
  refine r_istoreN X (pc' := 8) (ls' := #[.val (.int p1), .val (.int vv), .val (.int cc), .unset]) at_7 rfl rfl ?_
  have J : ∀ (b : Int32) (T : State), Here p l e room_1 (s.setVm s.vm) m #[(.int p1)] below meth c Z "com/example/nestful/nestful/header/FieldTextIsTokenCharPinLaw" "law" code 4 (some .boolean) n0 T h0 0 0 → (b.toInt = 1 ∧ (33 ≤ vv.toInt ∧ vv.toInt ≤ 126 ∧ ¬ (vv.toInt = 34 ∨ vv.toInt = 40 ∨ vv.toInt = 41 ∨ vv.toInt = 44 ∨ vv.toInt = 47 ∨ (58 ≤ vv.toInt ∧ vv.toInt ≤ 64) ∨ (91 ≤ vv.toInt ∧ vv.toInt ≤ 93) ∨ vv.toInt = 123 ∨ vv.toInt = 125)) ∨ b.toInt = 0 ∧ ¬ (33 ≤ vv.toInt ∧ vv.toInt ≤ 126 ∧ ¬ (vv.toInt = 34 ∨ vv.toInt = 40 ∨ vv.toInt = 41 ∨ vv.toInt = 44 ∨ vv.toInt = 47 ∨ (58 ≤ vv.toInt ∧ vv.toInt ≤ 64) ∨ (91 ≤ vv.toInt ∧ vv.toInt ≤ 93) ∨ vv.toInt = 123 ∨ vv.toInt = 125))) → Run p e below (FnlW s n0 8 1088 Z consts_1 (fun v _ => v = some (.int 1))) T (mkF m 32 #[.val (.int p1), .val (.int vv), .val (.int cc), .unset] [(.int b)]) := by
    intro b T X hb
    refine r_istoreN X (pc' := 33) (ls' := #[.val (.int p1), .val (.int vv), .val (.int cc), .val (.int b)]) at_32 rfl rfl ?_
    refine r_iloadN X (pc' := 34) at_33 rfl rfl ?_
    refine r_callSW X Wd (own_EW hw) (pc' := 37) at_34 (con_t l Z a0 hw cc cs h0 n0 Z0 S0 hcs (by omega)) (wd hw 1 rfl) (wd hw 2 rfl) (wd hw 3 rfl) (wd hw 4 rfl) (by decide) (argsL := [(.int cc)]) (rest := []) (W := 0) rfl rfl pd_isTokenChar rfl rfl (by decide) (by decide) (by decide) (by decide) rfl (fun v241 vm242 T243 h244 X245 Wd246 QQ247 => ?_)
    obtain ⟨z, rfl, hz⟩ := QQ247
    show Run p e below _ _ (mkF m 37 #[.val (.int p1), .val (.int vv), .val (.int cc), .val (.int b)] [(.int z)])
    rw [own_ex, own_bi] at hz
    refine r_iloadN X245 (pc' := 38) at_37 rfl rfl ?_
    refine r_icmpN X245 (pc2 := 41) at_38 (by decide) rfl (a := z.toInt) (b := b.toInt) rfl rfl (show ¬ (¬ z.toInt = b.toInt) from (by omega)) ?_
    refine r_iconst X245 (pc' := 42) (v := (1 : Int32)) at_41 rfl rfl ?_
    refine r_goto X245 (pc' := 46) at_42 (by decide) (by decide) ?_
    exact r_retNW X245 Wd246 (own_EW hw) (by simp) at_46 (z := (1 : Int32)) (w := (1 : Int32)) rfl rfl (by decide) (by decide)
  refine r_iloadN X (pc' := 9) at_8 rfl rfl ?_
  refine r_bipush X (pc' := 11) (v := (33 : Int32)) at_9 rfl rfl ?_
  refine r_icmp X (pc' := 31) (pc2 := 14) at_11 (by decide) (by decide) rfl (a := vv.toInt) (b := 33) rfl rfl (fun (cq248 : vv.toInt < 33) => ?_) (fun (cq248 : ¬ (vv.toInt < 33)) => ?_)
  · refine r_iconst X (pc' := 32) (v := (0 : Int32)) at_31 rfl rfl ?_
    exact J (0 : Int32) T X (Or.inr ⟨rfl, by omega⟩)
  · refine r_iloadN X (pc' := 15) at_14 rfl rfl ?_
    refine r_bipush X (pc' := 17) (v := (126 : Int32)) at_15 rfl rfl ?_
    refine r_icmp X (pc' := 31) (pc2 := 20) at_17 (by decide) (by decide) rfl (a := vv.toInt) (b := 126) rfl rfl (fun (cq249 : 126 < vv.toInt) => ?_) (fun (cq249 : ¬ (126 < vv.toInt)) => ?_)
    · refine r_iconst X (pc' := 32) (v := (0 : Int32)) at_31 rfl rfl ?_
      exact J (0 : Int32) T X (Or.inr ⟨rfl, by omega⟩)
    · refine r_iloadN X (pc' := 21) at_20 rfl rfl ?_
      refine r_callS X (pc' := 24) at_21 (con_de l Z a0 hw vv h0 n0 Z0) (wd hw 58 rfl) (wd hw 59 rfl) (wd hw 60 rfl) (wd hw 61 rfl) (by decide) (argsL := [(.int vv)]) (rest := []) (W := 0) rfl rfl pd_delimiter rfl rfl (by decide) (by decide) (by decide) (by decide) rfl (fun v250 T251 h252 X253 QQ254 => ?_)
      obtain ⟨⟨z, rfl, hz⟩, rfl⟩ := QQ254
      show Run p e below _ _ (mkF m 24 #[.val (.int p1), .val (.int vv), .val (.int cc), .unset] [(.int z)])
      refine r_if X253 (pc' := 31) (pc2 := 27) at_24 (by decide) (by decide) rfl (a := z.toInt) (b := 0) rfl rfl (fun (cq255 : ¬ z.toInt = 0) => ?_) (fun (cq255 : ¬ (¬ z.toInt = 0)) => ?_)
      · refine r_iconst X253 (pc' := 32) (v := (0 : Int32)) at_31 rfl rfl ?_
        exact J (0 : Int32) T251 X253 (Or.inr ⟨rfl, by omega⟩)
      · refine r_iconst X253 (pc' := 28) (v := (1 : Int32)) at_27 rfl rfl ?_
        refine r_goto X253 (pc' := 32) at_28 (by decide) (by decide) ?_
        exact J (1 : Int32) T251 X253 (Or.inl ⟨rfl, by omega⟩)
set_option maxRecDepth 65536 in
set_option maxHeartbeats 40000000 in
theorem comes_1 {Post : Tables → Env → Array Value → State → Outcome → State → Prop} (hpost : ∀ tb e args s v u, (limb_1_1.after args s (.returned v) u = true ∧ limb_1_2.after args s (.returned v) u = true ∧ True) → ReturnedEndW s (.returned v) u (Jvm.fieldLocs frame_1_writes args s ++ Jvm.arrayLocs frame_1_arrays args s ++ Jvm.staticLocs frame_1_statics s) 8 1088 → Post tb e args s (.returned v) u) :
    ArmFor flags0 classFile x code maxLocals ret World_1 tables_1 room_1 Calls_1 rest_1 Pre_1 Post := by
  intro l hfl _ _ p e ha hc hk s m args below hf hA hF happ hP
  obtain ⟨hcalls, hrest, hpre⟩ := hP
  obtain ⟨-, -, -, hnamed, -, -, -, hat⟩ := (Spec.applies_iff hf).mp happ
  obtain ⟨hg, hn⟩ := and_e (Cond.before_iff.mp (show (Jvm.Cond.and given_1 narrow_1).before args s = true from hpre))
  obtain ⟨gc, gr0⟩ := and_e hg
  obtain ⟨w0, rfl⟩ : ∃ w0 : Value, args = #[w0] := by
    have hs : args.size = 1 := by simpa [Cond.value, given_1] using gc
    obtain ⟨L⟩ := args
    match L, hs with
    | [w0], _ => exact ⟨w0, rfl⟩
  have hw := fun d (hd : d ∈ tables_1) => atoms_spec (ws := Jvm.Cond.code x code maxLocals ret :: tables_1) hat d (List.mem_cons_of_mem _ hd)
  obtain ⟨i0, ei0⟩ := is_v gr0
  obtain rfl : w0 = (.int i0) := Option.some.inj ei0
  have hr := Cond.before_iff.mp (show rest_1_c.before #[.int i0] s = true from hrest)
  unfold rest_1_c at hr
  obtain ⟨r0, r1⟩ := and_e hr
  obtain ⟨r2, r3⟩ := and_e r1
  obtain ⟨r4, -⟩ := and_e r3
  obtain ⟨cs, hcs⟩ := is_v r2
  have S0 : Sta s s.heap "java/lang/String" "COMPACT_STRINGS" "Z" (.int cs) := Sta.start hcs (Or.inl (Cond.before_iff.mpr r0))
  have hne : ¬ cs.toInt = 0 := fun q => by
    have e1 : cs = 0 := Int32.toInt_inj.mp q
    subst e1
    have r5 := not_v r4
    rw [eq_i hcs (Term.int_eval 0) rfl] at r5; cases r5
  have H0 : CHv s consts_1 s.vm s.heap := CHv.start (a0 := #[.int i0]) (own_EW hw) (fun q hq => hcalls.1 q hq) (Cond.before_iff.mpr r4) (wd hw 8 rfl) (wd hw 7 rfl)
  obtain ⟨n, o, h1, h2, h3, _, L, rfl, ⟨rfl, -, N⟩, -, hq⟩ := con_law l s _ hw i0 cs s.heap s.heap.size (Nat.le_refl _) S0 hne tables_1 p e ha hc hk s m _ below hf ((Spec.applies_iff_loose hf).mp happ).1 ⟨rfl, State.Warmed39.refl s, rfl, H0⟩ trivial
  refine ⟨n, _, h1, h2, h3, hpost _ _ _ _ _ _ ⟨Cond.after_iff.mpr rfl, Cond.after_iff.mpr (eq_i res_at (Term.int_eval (1)) rfl), trivial⟩ ⟨hq.1, hq.2.1, hq.2.2.1, (hq.2.2.2.sift fun y hy => Or.inr (N y hy)).mono (by decide) (by decide)⟩⟩
theorem main_1_1 : Claimed_1_1 := comes_1 fun _ _ _ _ _ _ h hF => ⟨h.1, hF⟩
theorem main_1_2 : Claimed_1_2 := comes_1 fun _ _ _ _ _ _ h hF => ⟨h.2.1, hF⟩
end Jvm.Pilot.@@N@@
namespace Jvm.Pilot.@@N@@
open Jvm Jvm.ClassFile Sem Op Lib Jvm.Free Jvm.Stand Jvm.Pilot.@@N@@.Jvm.D
/-! MADE BY PROGRAM (witnessworld.py) out of the Statement's table words and the real class files: 18 classes; the members and pool entries that the words name. The judged class is class 1, her method 2. -/
namespace start1
open Jvm.ClassFile
def u (s : String) : CpInfo := .utf8 (stringToUtf16 s)
/-- a pool by its gaps: so many unusable entries, then the entry; so many at the end -/
def gap : Nat → List CpInfo → List CpInfo
  | 0, r => r
  | n + 1, r => .unusable :: gap n r
def poolList (es : List (Nat × CpInfo)) (last : Nat) : List CpInfo := es.foldr (fun e r => gap e.1 (e.2 :: r)) (gap last [])
def pool (es : List (Nat × CpInfo)) (last : Nat) : Array CpInfo := ⟨poolList es last⟩
def fileOf (pool : Array CpInfo) (this : Nat) (attrs : Array Attribute := #[]) (ms : Array MethodInfo := #[]) (fl : Nat := 33) (sup : Nat := 0) (ifs : Array Nat := #[]) (fds : Array FieldInfo := #[]) : ClassFile where
  minorVersion := 0
  majorVersion := 65
  constantPool := pool
  accessFlags := fl
  thisClass := this
  superClass := sup
  interfaces := ifs
  fields := fds
  methods := ms
  attributes := attrs
def plain (name : String) (sup : Option ClassId) : Class where
  name := name
  kind := .ordinary
  loader := none
  accessFlags := 33
  super := sup
  interfaces := #[]
  cf := none
  fields := #[]
  methods := #[]
  instanceTypes := #[]
  staticTypes := #[]
  resolved := #[]
  callSites := []
  init := .initialized
  statics := none
  mirror := none

def pool0 : Array CpInfo := pool [(5, u "<init>"), (0, u "()V"), (1, .class_ 10), (1, u "java/lang/Object")] 113

def k0m0 : Method := { name := "<init>", desc := "()V", sig := { parameters := [], returnType := none }, accessFlags := 1, code := none }
/-- java/lang/Object -/
def k0 : Class := { plain "java/lang/Object" none with
  accessFlags := 33
  interfaces := #[]
  cf := some (fileOf pool0 8 #[] #[{ accessFlags := 1, nameIndex := 5, descriptorIndex := 6, attributes := #[] }] 33 0 #[] #[])
  fields := #[]
  methods := #[k0m0]
  instanceTypes := #[]
  staticTypes := #[]
  resolved := Array.replicate 124 none
  statics := none }

def pool1 : Array CpInfo := pool [(2, .class_ 4), (1, u "java/lang/Object"), (0, u "<init>"), (0, u "()V"), (0, .integer 65535), (0, .methodref 9 10), (0, .class_ 11), (0, .nameAndType 12 13), (0, u "com/example/nestful/nestful/header/FieldTextIsTokenCharPinLaw"), (0, u "delimiter"), (0, u "(I)Z"), (0, .methodref 15 16), (0, .class_ 17), (0, .nameAndType 18 19), (0, u "com/example/nestful/nestful/header/FieldText"), (0, u "isTokenChar"), (0, u "(C)Z"), (3, u "law")] 2

def k1m0 : Method := { name := "<init>", desc := "()V", sig := { parameters := [], returnType := none }, accessFlags := 2, code := none }
def k1c1 : Code := { maxStack := 2, maxLocals := 1, code := method_2_code, exceptionTable := #[], attributes := #[] }
def k1m1 : Method := { name := "delimiter", desc := "(I)Z", sig := { parameters := [.int], returnType := some .boolean }, accessFlags := 10, code := some k1c1 }
def k1c2 : Code := { maxStack := 2, maxLocals := 4, code := code, exceptionTable := #[], attributes := #[] }
def k1m2 : Method := { name := "law", desc := "(I)Z", sig := { parameters := [.int], returnType := some .boolean }, accessFlags := 9, code := some k1c2 }
/-- com/example/nestful/nestful/header/FieldTextIsTokenCharPinLaw -/
def k1 : Class := { plain "com/example/nestful/nestful/header/FieldTextIsTokenCharPinLaw" (some 0) with
  accessFlags := 49
  interfaces := #[]
  cf := some (fileOf pool1 9 #[] #[{ accessFlags := 2, nameIndex := 5, descriptorIndex := 6, attributes := #[] }, { accessFlags := 10, nameIndex := 12, descriptorIndex := 13, attributes := #[] }, { accessFlags := 9, nameIndex := 23, descriptorIndex := 13, attributes := #[] }] 49 2 #[] #[])
  fields := #[]
  methods := #[k1m0, k1m1, k1m2]
  instanceTypes := #[]
  staticTypes := #[]
  resolved := Array.replicate 26 none
  statics := none }

def pool2 : Array CpInfo := pool [(2, .class_ 4), (1, u "java/lang/Object"), (0, u "<init>"), (0, u "()V"), (0, .string 8), (0, u "!#$%&'*+-.^_`|~"), (0, .methodref 10 11), (0, .class_ 12), (0, .nameAndType 13 14), (0, u "java/lang/String"), (0, u "indexOf"), (0, u "(I)I"), (13, .class_ 30), (1, u "com/example/nestful/nestful/header/FieldText"), (0, u "isTokenChar"), (0, u "(C)Z")] 9

def k2m0 : Method := { name := "<init>", desc := "()V", sig := { parameters := [], returnType := none }, accessFlags := 2, code := none }
def k2c1 : Code := { maxStack := 2, maxLocals := 1, code := prog_17_method_2_code, exceptionTable := #[], attributes := #[] }
def k2m1 : Method := { name := "isTokenChar", desc := "(C)Z", sig := { parameters := [.char], returnType := some .boolean }, accessFlags := 9, code := some k2c1 }
/-- com/example/nestful/nestful/header/FieldText -/
def k2 : Class := { plain "com/example/nestful/nestful/header/FieldText" (some 0) with
  accessFlags := 33
  interfaces := #[]
  cf := some (fileOf pool2 28 #[] #[{ accessFlags := 2, nameIndex := 5, descriptorIndex := 6, attributes := #[] }, { accessFlags := 9, nameIndex := 31, descriptorIndex := 32, attributes := #[] }] 33 2 #[] #[])
  fields := #[]
  methods := #[k2m0, k2m1]
  instanceTypes := #[]
  staticTypes := #[]
  resolved := Array.replicate 42 none
  statics := none }

def pool3 : Array CpInfo := pool [(1, .class_ 2), (0, u "java/io/Serializable"), (0, .class_ 4), (0, u "java/lang/Object")] 2

/-- java/io/Serializable -/
def k3 : Class := { plain "java/io/Serializable" (some 0) with
  accessFlags := 1537
  interfaces := #[]
  cf := some (fileOf pool3 1 #[] #[] 1537 3 #[] #[])
  fields := #[]
  methods := #[]
  instanceTypes := #[]
  staticTypes := #[]
  resolved := Array.replicate 7 none
  statics := none }

def pool4 : Array CpInfo := pool [(1, .class_ 2), (0, u "java/lang/Comparable"), (0, .class_ 4), (0, u "java/lang/Object")] 7

/-- java/lang/Comparable -/
def k4 : Class := { plain "java/lang/Comparable" (some 0) with
  accessFlags := 1537
  interfaces := #[]
  cf := some (fileOf pool4 1 #[] #[] 1537 3 #[] #[])
  fields := #[]
  methods := #[]
  instanceTypes := #[]
  staticTypes := #[]
  resolved := Array.replicate 12 none
  statics := none }

def pool5 : Array CpInfo := pool [(2, .class_ 4), (1, u "java/lang/CharSequence"), (42, .class_ 48), (0, u "java/lang/CharSequence$1CodePointIterator"), (10, .class_ 60), (0, u "java/lang/CharSequence$1CharIterator"), (5, .class_ 67), (0, u "java/lang/Object")] 63

/-- java/lang/CharSequence -/
def k5 : Class := { plain "java/lang/CharSequence" (some 0) with
  accessFlags := 1537
  interfaces := #[]
  cf := some (fileOf pool5 2 #[.nestMembers #[47, 59]] #[] 1537 66 #[] #[])
  fields := #[]
  methods := #[]
  instanceTypes := #[]
  staticTypes := #[]
  resolved := Array.replicate 131 none
  statics := none }

def pool6 : Array CpInfo := pool [(1, .class_ 2), (0, u "java/lang/constant/Constable"), (0, .class_ 4), (0, u "java/lang/Object")] 6

/-- java/lang/constant/Constable -/
def k6 : Class := { plain "java/lang/constant/Constable" (some 0) with
  accessFlags := 1537
  interfaces := #[]
  cf := some (fileOf pool6 1 #[] #[] 1537 3 #[] #[])
  fields := #[]
  methods := #[]
  instanceTypes := #[]
  staticTypes := #[]
  resolved := Array.replicate 11 none
  statics := none }

def pool7 : Array CpInfo := pool [(1, .class_ 2), (0, u "java/lang/constant/ConstantDesc"), (0, .class_ 4), (0, u "java/lang/Object")] 32

/-- java/lang/constant/ConstantDesc -/
def k7 : Class := { plain "java/lang/constant/ConstantDesc" (some 0) with
  accessFlags := 1537
  interfaces := #[]
  cf := some (fileOf pool7 1 #[] #[] 1537 3 #[] #[])
  fields := #[]
  methods := #[]
  instanceTypes := #[]
  staticTypes := #[]
  resolved := Array.replicate 37 none
  statics := none }

def pool8 : Array CpInfo := pool [(2, .class_ 4), (1, u "java/lang/Object"), (0, u "<init>"), (0, u "()V"), (2, .fieldref 10 11), (0, .class_ 12), (0, .nameAndType 13 14), (0, u "java/lang/String"), (0, u "value"), (0, u "[B"), (0, .fieldref 10 16), (0, .nameAndType 17 18), (0, u "coder"), (0, u "B"), (2, u "hash"), (0, u "I"), (2, u "hashIsZero"), (0, u "Z"), (11, .fieldref 10 39), (0, .nameAndType 40 26), (0, u "COMPACT_STRINGS"), (66, .class_ 109), (1, u "java/lang/StringLatin1"), (32, u "()Z"), (191, u "()I"), (0, .methodref 10 336), (0, .nameAndType 17 337), (0, u "()B"), (154, .methodref 10 493), (0, .nameAndType 494 142), (0, u "isLatin1"), (10, .methodref 10 506), (0, .nameAndType 507 334), (0, u "length"), (67, .class_ 576), (0, u "java/lang/CharSequence"), (22, u "CASE_INSENSITIVE_ORDER"), (0, u "Ljava/util/Comparator;"), (32, .methodref 10 634), (0, .nameAndType 635 636), (0, u "indexOf"), (0, u "(II)I"), (0, .methodref 107 638), (0, .nameAndType 635 639), (0, u "([BIII)I"), (125, u "(I)I"), (335, u "serialPersistentFields"), (0, u "[Ljava/io/ObjectStreamField;"), (0, .class_ 1104), (0, u "java/lang/String$CaseInsensitiveComparator"), (1, .class_ 1107), (0, u "java/io/Serializable"), (0, .class_ 1109), (0, u "java/lang/Comparable"), (0, .class_ 1111), (0, u "java/lang/constant/Constable"), (0, .class_ 1113), (0, u "java/lang/constant/ConstantDesc"), (2, u "serialVersionUID"), (0, u "J"), (3, u "REPL"), (0, u "C"), (2, u "LATIN1"), (1, u "UTF16")] 323

def k8m0 : Method := { name := "<init>", desc := "()V", sig := { parameters := [], returnType := none }, accessFlags := 1, code := none }
def k8c1 : Code := { maxStack := 2, maxLocals := 1, code := jdk_42_method_54_code, exceptionTable := #[], attributes := #[] }
def k8m1 : Method := { name := "length", desc := "()I", sig := { parameters := [], returnType := some .int }, accessFlags := 1, code := some k8c1 }
def k8c2 : Code := { maxStack := 3, maxLocals := 2, code := jdk_42_method_79_code, exceptionTable := #[], attributes := #[] }
def k8m2 : Method := { name := "indexOf", desc := "(I)I", sig := { parameters := [.int], returnType := some .int }, accessFlags := 1, code := some k8c2 }
def k8c3 : Code := { maxStack := 4, maxLocals := 3, code := jdk_42_method_80_code, exceptionTable := #[], attributes := #[] }
def k8m3 : Method := { name := "indexOf", desc := "(II)I", sig := { parameters := [.int, .int], returnType := some .int }, accessFlags := 1, code := some k8c3 }
def k8c4 : Code := { maxStack := 1, maxLocals := 1, code := jdk_42_method_152_code, exceptionTable := #[], attributes := #[] }
def k8m4 : Method := { name := "coder", desc := "()B", sig := { parameters := [], returnType := some .byte }, accessFlags := 0, code := some k8c4 }
def k8c5 : Code := { maxStack := 1, maxLocals := 1, code := jdk_42_method_154_code, exceptionTable := #[], attributes := #[] }
def k8m5 : Method := { name := "isLatin1", desc := "()Z", sig := { parameters := [], returnType := some .boolean }, accessFlags := 0, code := some k8c5 }
/-- java/lang/String -/
def k8 : Class := { plain "java/lang/String" (some 0) with
  accessFlags := 49
  interfaces := #[3, 4, 5, 6, 7]
  cf := some (fileOf pool8 10 #[.nestMembers #[1103]] #[{ accessFlags := 1, nameIndex := 5, descriptorIndex := 6, attributes := #[] }, { accessFlags := 1, nameIndex := 507, descriptorIndex := 334, attributes := #[] }, { accessFlags := 1, nameIndex := 635, descriptorIndex := 765, attributes := #[] }, { accessFlags := 1, nameIndex := 635, descriptorIndex := 636, attributes := #[] }, { accessFlags := 0, nameIndex := 17, descriptorIndex := 337, attributes := #[] }, { accessFlags := 0, nameIndex := 494, descriptorIndex := 142, attributes := #[] }] 49 2 #[1106, 1108, 575, 1110, 1112] #[{ accessFlags := 18, nameIndex := 13, descriptorIndex := 14, attributes := #[] }, { accessFlags := 18, nameIndex := 17, descriptorIndex := 18, attributes := #[] }, { accessFlags := 2, nameIndex := 21, descriptorIndex := 22, attributes := #[] }, { accessFlags := 2, nameIndex := 25, descriptorIndex := 26, attributes := #[] }, { accessFlags := 26, nameIndex := 1116, descriptorIndex := 1117, attributes := #[] }, { accessFlags := 24, nameIndex := 40, descriptorIndex := 26, attributes := #[] }, { accessFlags := 26, nameIndex := 1101, descriptorIndex := 1102, attributes := #[] }, { accessFlags := 26, nameIndex := 1121, descriptorIndex := 1122, attributes := #[] }, { accessFlags := 25, nameIndex := 599, descriptorIndex := 600, attributes := #[] }, { accessFlags := 24, nameIndex := 1125, descriptorIndex := 18, attributes := #[] }, { accessFlags := 24, nameIndex := 1127, descriptorIndex := 18, attributes := #[] }])
  fields := #[{ name := "value", type := (.array .byte), accessFlags := 18, slot := 0, constantValue := 0 }, { name := "coder", type := .byte, accessFlags := 18, slot := 1, constantValue := 0 }, { name := "hash", type := .int, accessFlags := 2, slot := 2, constantValue := 0 }, { name := "hashIsZero", type := .boolean, accessFlags := 2, slot := 3, constantValue := 0 }, { name := "serialVersionUID", type := .long, accessFlags := 26, slot := 0, constantValue := 0 }, { name := "COMPACT_STRINGS", type := .boolean, accessFlags := 24, slot := 1, constantValue := 0 }, { name := "serialPersistentFields", type := (.array (.object "java/io/ObjectStreamField")), accessFlags := 26, slot := 2, constantValue := 0 }, { name := "REPL", type := .char, accessFlags := 26, slot := 3, constantValue := 0 }, { name := "CASE_INSENSITIVE_ORDER", type := (.object "java/util/Comparator"), accessFlags := 25, slot := 4, constantValue := 0 }, { name := "LATIN1", type := .byte, accessFlags := 24, slot := 5, constantValue := 0 }, { name := "UTF16", type := .byte, accessFlags := 24, slot := 6, constantValue := 0 }]
  methods := #[k8m0, k8m1, k8m2, k8m3, k8m4, k8m5]
  instanceTypes := #[(.array .byte), .byte, .int, .boolean]
  staticTypes := #[.long, .boolean, (.array (.object "java/io/ObjectStreamField")), .char, (.object "java/util/Comparator"), .byte, .byte]
  resolved := Array.replicate 1451 none
  statics := some 0 }

def pool9 : Array CpInfo := pool [(4, .class_ 6), (1, u "java/lang/Object"), (0, u "<init>"), (0, u "()V"), (5, .class_ 16), (1, u "java/lang/StringLatin1"), (21, .methodref 39 40), (0, .class_ 41), (0, .nameAndType 42 43), (0, u "java/lang/Math"), (0, u "min"), (0, u "(II)I"), (44, .methodref 14 89), (0, .nameAndType 90 91), (0, u "canEncode"), (0, u "(I)Z"), (0, .methodref 39 93), (0, .nameAndType 94 43), (0, u "max"), (0, .methodref 14 96), (0, .nameAndType 97 98), (0, u "indexOfChar"), (0, u "([BIII)I"), (2, u "indexOf"), (19, u "$assertionsDisabled"), (0, u "Z"), (98, .class_ 223), (1, u "java/lang/StringLatin1$LinesSpliterator"), (166, .class_ 391), (0, u "java/lang/StringLatin1$CharsSpliterator")] 3

def k9m0 : Method := { name := "<init>", desc := "()V", sig := { parameters := [], returnType := none }, accessFlags := 0, code := none }
def k9c1 : Code := { maxStack := 2, maxLocals := 1, code := jdk_43_method_4_code, exceptionTable := #[], attributes := #[] }
def k9m1 : Method := { name := "canEncode", desc := "(I)Z", sig := { parameters := [.int], returnType := some .boolean }, accessFlags := 9, code := some k9c1 }
def k9c2 : Code := { maxStack := 4, maxLocals := 4, code := jdk_43_method_22_code, exceptionTable := #[], attributes := #[] }
def k9m2 : Method := { name := "indexOf", desc := "([BIII)I", sig := { parameters := [(.array .byte), .int, .int, .int], returnType := some .int }, accessFlags := 9, code := some k9c2 }
def k9c3 : Code := { maxStack := 2, maxLocals := 6, code := jdk_43_method_23_code, exceptionTable := #[], attributes := #[] }
def k9m3 : Method := { name := "indexOfChar", desc := "([BIII)I", sig := { parameters := [(.array .byte), .int, .int, .int], returnType := some .int }, accessFlags := 10, code := some k9c3 }
/-- java/lang/StringLatin1 -/
def k9 : Class := { plain "java/lang/StringLatin1" (some 0) with
  accessFlags := 48
  interfaces := #[]
  cf := some (fileOf pool9 14 #[.nestMembers #[390, 221]] #[{ accessFlags := 0, nameIndex := 7, descriptorIndex := 8, attributes := #[] }, { accessFlags := 9, nameIndex := 90, descriptorIndex := 91, attributes := #[] }, { accessFlags := 9, nameIndex := 101, descriptorIndex := 98, attributes := #[] }, { accessFlags := 10, nameIndex := 97, descriptorIndex := 98, attributes := #[] }] 48 4 #[] #[{ accessFlags := 4120, nameIndex := 121, descriptorIndex := 122, attributes := #[] }])
  fields := #[{ name := "$assertionsDisabled", type := .boolean, accessFlags := 4120, slot := 0, constantValue := 0 }]
  methods := #[k9m0, k9m1, k9m2, k9m3]
  instanceTypes := #[]
  staticTypes := #[.boolean]
  resolved := Array.replicate 395 none
  statics := none }

def pool10 : Array CpInfo := pool [(1, .class_ 2), (0, u "java/lang/Math"), (1, .class_ 6), (1, u "java/lang/Object"), (0, u "<init>"), (0, u "()V"), (89, .class_ 100), (1, u "java/lang/Math$RandomNumberGeneratorHolder"), (71, u "negativeZeroFloatBits"), (0, u "J"), (2, u "negativeZeroDoubleBits"), (21, u "max"), (2, u "min"), (43, u "$assertionsDisabled"), (0, u "Z"), (88, u "(II)I"), (2, u "twoToTheDoubleScaleDown"), (0, u "D"), (4, u "twoToTheDoubleScaleUp"), (9, u "E"), (3, u "PI"), (2, u "TAU"), (2, u "DEGREES_TO_RADIANS"), (0, u "RADIANS_TO_DEGREES")] 94

def k10m0 : Method := { name := "<init>", desc := "()V", sig := { parameters := [], returnType := none }, accessFlags := 2, code := none }
def k10c1 : Code := { maxStack := 2, maxLocals := 2, code := jdk_29_method_65_code, exceptionTable := #[], attributes := #[] }
def k10m1 : Method := { name := "max", desc := "(II)I", sig := { parameters := [.int, .int], returnType := some .int }, accessFlags := 9, code := some k10c1 }
def k10c2 : Code := { maxStack := 2, maxLocals := 2, code := jdk_29_method_69_code, exceptionTable := #[], attributes := #[] }
def k10m2 : Method := { name := "min", desc := "(II)I", sig := { parameters := [.int, .int], returnType := some .int }, accessFlags := 9, code := some k10c2 }
/-- java/lang/Math -/
def k10 : Class := { plain "java/lang/Math" (some 0) with
  accessFlags := 49
  interfaces := #[]
  cf := some (fileOf pool10 1 #[.nestMembers #[98]] #[{ accessFlags := 2, nameIndex := 7, descriptorIndex := 8, attributes := #[] }, { accessFlags := 9, nameIndex := 198, descriptorIndex := 335, attributes := #[] }, { accessFlags := 9, nameIndex := 201, descriptorIndex := 335, attributes := #[] }] 49 4 #[] #[{ accessFlags := 25, nameIndex := 354, descriptorIndex := 339, attributes := #[] }, { accessFlags := 25, nameIndex := 358, descriptorIndex := 339, attributes := #[] }, { accessFlags := 25, nameIndex := 361, descriptorIndex := 339, attributes := #[] }, { accessFlags := 26, nameIndex := 364, descriptorIndex := 339, attributes := #[] }, { accessFlags := 26, nameIndex := 365, descriptorIndex := 339, attributes := #[] }, { accessFlags := 26, nameIndex := 172, descriptorIndex := 173, attributes := #[] }, { accessFlags := 26, nameIndex := 176, descriptorIndex := 173, attributes := #[] }, { accessFlags := 8, nameIndex := 344, descriptorIndex := 339, attributes := #[] }, { accessFlags := 8, nameIndex := 338, descriptorIndex := 339, attributes := #[] }, { accessFlags := 4120, nameIndex := 245, descriptorIndex := 246, attributes := #[] }])
  fields := #[{ name := "E", type := .double, accessFlags := 25, slot := 0, constantValue := 0 }, { name := "PI", type := .double, accessFlags := 25, slot := 1, constantValue := 0 }, { name := "TAU", type := .double, accessFlags := 25, slot := 2, constantValue := 0 }, { name := "DEGREES_TO_RADIANS", type := .double, accessFlags := 26, slot := 3, constantValue := 0 }, { name := "RADIANS_TO_DEGREES", type := .double, accessFlags := 26, slot := 4, constantValue := 0 }, { name := "negativeZeroFloatBits", type := .long, accessFlags := 26, slot := 5, constantValue := 0 }, { name := "negativeZeroDoubleBits", type := .long, accessFlags := 26, slot := 6, constantValue := 0 }, { name := "twoToTheDoubleScaleUp", type := .double, accessFlags := 8, slot := 7, constantValue := 0 }, { name := "twoToTheDoubleScaleDown", type := .double, accessFlags := 8, slot := 8, constantValue := 0 }, { name := "$assertionsDisabled", type := .boolean, accessFlags := 4120, slot := 9, constantValue := 0 }]
  methods := #[k10m0, k10m1, k10m2]
  instanceTypes := #[]
  staticTypes := #[.double, .double, .double, .double, .double, .long, .long, .double, .double, .boolean]
  resolved := Array.replicate 460 none
  statics := none }

def pool11 : Array CpInfo := pool [(2, .class_ 4), (1, u "java/lang/Object"), (0, u "<init>"), (0, u "()V"), (17, .class_ 26), (1, u "jdk/internal/util/Preconditions"), (28, .class_ 56), (0, u "jdk/internal/util/Preconditions$4"), (57, .class_ 115), (0, u "jdk/internal/util/Preconditions$1"), (7, u "SIOOBE_FORMATTER"), (0, u "Ljava/util/function/BiFunction;"), (0, .class_ 126), (0, u "jdk/internal/util/Preconditions$2"), (3, u "AIOOBE_FORMATTER"), (0, .class_ 132), (0, u "jdk/internal/util/Preconditions$3"), (3, u "IOOBE_FORMATTER")] 57

def k11m0 : Method := { name := "<init>", desc := "()V", sig := { parameters := [], returnType := none }, accessFlags := 1, code := none }
/-- jdk/internal/util/Preconditions -/
def k11 : Class := { plain "jdk/internal/util/Preconditions" (some 0) with
  accessFlags := 33
  interfaces := #[]
  cf := some (fileOf pool11 24 #[.nestMembers #[55, 131, 125, 114]] #[{ accessFlags := 1, nameIndex := 5, descriptorIndex := 6, attributes := #[] }] 33 2 #[] #[{ accessFlags := 25, nameIndex := 123, descriptorIndex := 124, attributes := #[] }, { accessFlags := 25, nameIndex := 130, descriptorIndex := 124, attributes := #[] }, { accessFlags := 25, nameIndex := 136, descriptorIndex := 124, attributes := #[] }])
  fields := #[{ name := "SIOOBE_FORMATTER", type := (.object "java/util/function/BiFunction"), accessFlags := 25, slot := 0, constantValue := 0 }, { name := "AIOOBE_FORMATTER", type := (.object "java/util/function/BiFunction"), accessFlags := 25, slot := 1, constantValue := 0 }, { name := "IOOBE_FORMATTER", type := (.object "java/util/function/BiFunction"), accessFlags := 25, slot := 2, constantValue := 0 }]
  methods := #[k11m0]
  instanceTypes := #[]
  staticTypes := #[(.object "java/util/function/BiFunction"), (.object "java/util/function/BiFunction"), (.object "java/util/function/BiFunction")]
  resolved := Array.replicate 194 none
  statics := some 1 }

def pool12 : Array CpInfo := pool [(9, u "<init>"), (6, .class_ 18), (1, u "java/lang/Object"), (0, u "()V"), (1, .class_ 23), (1, u "jdk/internal/util/ArraysSupport"), (0, u "LOG2_ARRAY_LONG_INDEX_SCALE"), (0, u "I"), (2, u "U"), (0, u "Ljdk/internal/misc/Unsafe;"), (8, u "BIG_ENDIAN"), (0, u "Z"), (8, u "LOG2_BYTE_BIT_SIZE"), (4, u "LOG2_ARRAY_INT_INDEX_SCALE"), (54, u "JLA"), (0, u "Ljdk/internal/access/JavaLangAccess;"), (11, u "LOG2_ARRAY_BOOLEAN_INDEX_SCALE"), (9, u "LOG2_ARRAY_BYTE_INDEX_SCALE"), (5, u "LOG2_ARRAY_CHAR_INDEX_SCALE"), (5, u "LOG2_ARRAY_SHORT_INDEX_SCALE"), (18, u "LOG2_ARRAY_FLOAT_INDEX_SCALE"), (24, u "LOG2_ARRAY_DOUBLE_INDEX_SCALE"), (89, u "T_BOOLEAN"), (2, u "T_CHAR"), (1, u "T_FLOAT"), (1, u "T_DOUBLE"), (1, u "T_BYTE"), (1, u "T_SHORT"), (1, u "T_INT"), (1, u "T_LONG"), (1, u "SOFT_MAX_ARRAY_LENGTH")] 83

def k12m0 : Method := { name := "<init>", desc := "()V", sig := { parameters := [], returnType := none }, accessFlags := 2, code := none }
/-- jdk/internal/util/ArraysSupport -/
def k12 : Class := { plain "jdk/internal/util/ArraysSupport" (some 0) with
  accessFlags := 33
  interfaces := #[]
  cf := some (fileOf pool12 21 #[] #[{ accessFlags := 2, nameIndex := 9, descriptorIndex := 19, attributes := #[] }] 33 16 #[] #[{ accessFlags := 24, nameIndex := 28, descriptorIndex := 29, attributes := #[] }, { accessFlags := 26, nameIndex := 38, descriptorIndex := 39, attributes := #[] }, { accessFlags := 25, nameIndex := 121, descriptorIndex := 25, attributes := #[] }, { accessFlags := 25, nameIndex := 131, descriptorIndex := 25, attributes := #[] }, { accessFlags := 25, nameIndex := 137, descriptorIndex := 25, attributes := #[] }, { accessFlags := 25, nameIndex := 143, descriptorIndex := 25, attributes := #[] }, { accessFlags := 25, nameIndex := 53, descriptorIndex := 25, attributes := #[] }, { accessFlags := 25, nameIndex := 24, descriptorIndex := 25, attributes := #[] }, { accessFlags := 25, nameIndex := 162, descriptorIndex := 25, attributes := #[] }, { accessFlags := 25, nameIndex := 187, descriptorIndex := 25, attributes := #[] }, { accessFlags := 26, nameIndex := 48, descriptorIndex := 25, attributes := #[] }, { accessFlags := 25, nameIndex := 277, descriptorIndex := 25, attributes := #[] }, { accessFlags := 25, nameIndex := 280, descriptorIndex := 25, attributes := #[] }, { accessFlags := 25, nameIndex := 282, descriptorIndex := 25, attributes := #[] }, { accessFlags := 25, nameIndex := 284, descriptorIndex := 25, attributes := #[] }, { accessFlags := 25, nameIndex := 286, descriptorIndex := 25, attributes := #[] }, { accessFlags := 25, nameIndex := 288, descriptorIndex := 25, attributes := #[] }, { accessFlags := 25, nameIndex := 290, descriptorIndex := 25, attributes := #[] }, { accessFlags := 25, nameIndex := 292, descriptorIndex := 25, attributes := #[] }, { accessFlags := 26, nameIndex := 108, descriptorIndex := 109, attributes := #[] }, { accessFlags := 25, nameIndex := 294, descriptorIndex := 25, attributes := #[] }])
  fields := #[{ name := "U", type := (.object "jdk/internal/misc/Unsafe"), accessFlags := 24, slot := 0, constantValue := 0 }, { name := "BIG_ENDIAN", type := .boolean, accessFlags := 26, slot := 1, constantValue := 0 }, { name := "LOG2_ARRAY_BOOLEAN_INDEX_SCALE", type := .int, accessFlags := 25, slot := 2, constantValue := 0 }, { name := "LOG2_ARRAY_BYTE_INDEX_SCALE", type := .int, accessFlags := 25, slot := 3, constantValue := 0 }, { name := "LOG2_ARRAY_CHAR_INDEX_SCALE", type := .int, accessFlags := 25, slot := 4, constantValue := 0 }, { name := "LOG2_ARRAY_SHORT_INDEX_SCALE", type := .int, accessFlags := 25, slot := 5, constantValue := 0 }, { name := "LOG2_ARRAY_INT_INDEX_SCALE", type := .int, accessFlags := 25, slot := 6, constantValue := 0 }, { name := "LOG2_ARRAY_LONG_INDEX_SCALE", type := .int, accessFlags := 25, slot := 7, constantValue := 0 }, { name := "LOG2_ARRAY_FLOAT_INDEX_SCALE", type := .int, accessFlags := 25, slot := 8, constantValue := 0 }, { name := "LOG2_ARRAY_DOUBLE_INDEX_SCALE", type := .int, accessFlags := 25, slot := 9, constantValue := 0 }, { name := "LOG2_BYTE_BIT_SIZE", type := .int, accessFlags := 26, slot := 10, constantValue := 0 }, { name := "T_BOOLEAN", type := .int, accessFlags := 25, slot := 11, constantValue := 0 }, { name := "T_CHAR", type := .int, accessFlags := 25, slot := 12, constantValue := 0 }, { name := "T_FLOAT", type := .int, accessFlags := 25, slot := 13, constantValue := 0 }, { name := "T_DOUBLE", type := .int, accessFlags := 25, slot := 14, constantValue := 0 }, { name := "T_BYTE", type := .int, accessFlags := 25, slot := 15, constantValue := 0 }, { name := "T_SHORT", type := .int, accessFlags := 25, slot := 16, constantValue := 0 }, { name := "T_INT", type := .int, accessFlags := 25, slot := 17, constantValue := 0 }, { name := "T_LONG", type := .int, accessFlags := 25, slot := 18, constantValue := 0 }, { name := "JLA", type := (.object "jdk/internal/access/JavaLangAccess"), accessFlags := 26, slot := 19, constantValue := 0 }, { name := "SOFT_MAX_ARRAY_LENGTH", type := .int, accessFlags := 25, slot := 20, constantValue := 0 }]
  methods := #[k12m0]
  instanceTypes := #[]
  staticTypes := #[(.object "jdk/internal/misc/Unsafe"), .boolean, .int, .int, .int, .int, .int, .int, .int, .int, .int, .int, .int, .int, .int, .int, .int, .int, .int, (.object "jdk/internal/access/JavaLangAccess"), .int]
  resolved := Array.replicate 378 none
  statics := none }

def pool13 : Array CpInfo := pool [(1, u "java/lang/Cloneable"), (0, .class_ 1), (0, u "java/lang/Object"), (0, .class_ 3)] 3

/-- java/lang/Cloneable -/
def k13 : Class := { plain "java/lang/Cloneable" (some 0) with
  accessFlags := 1537
  interfaces := #[]
  cf := some (fileOf pool13 2 #[] #[] 1537 4 #[] #[])
  fields := #[]
  methods := #[]
  instanceTypes := #[]
  staticTypes := #[]
  resolved := Array.replicate 8 none
  statics := none }

/-- the primitive byte -/
def k14 : Class := { plain "byte" none with kind := .primitive 'B', accessFlags := 0x411 }
/-- [B -/
def k15 : Class := { plain "[B" (some 0) with kind := .array 14 .byte, interfaces := #[13, 3], accessFlags := 1041 }

/-- the primitive int -/
def k16 : Class := { plain "int" none with kind := .primitive 'I', accessFlags := 0x411 }
/-- [I -/
def k17 : Class := { plain "[I" (some 0) with kind := .array 16 .int, interfaces := #[13, 3], accessFlags := 1041 }

def heap : Heap := #[{ cls := 8, slots := #[.long 0, .int 1, .null, .int 0, .null, .int 0, .int 0], vm := .statics 8 },
  { cls := 11, slots := #[.null, .null, .null], vm := .statics 11 }]
def classes : Array Class := #[k0, k1, k2, k3, k4, k5, k6, k7, k8, k9, k10, k11, k12, k13, k14, k15, k16, k17]
def interned : List (Array UInt16 × Addr) := []
def slotsUsed : Nat := 10
def theMethod : MethodId := ⟨1, 2⟩
def args0 : Array Value := #[.int 5]
def aboutOver (below : List Frame) : State where
  vm := { classes := classes, interned := interned.toArray }
  heap := heap
  slotsUsed := slotsUsed
  threads := #[{ frames := .invoking theMethod args0 :: below }]
def below0 : List Frame := [.native { method := ⟨0, 0⟩, args := #[] }]
def about1 : State := aboutOver below0
def p0 : Program := .bare "" "" ""
def e0 : Env := launch0.env 0 0 0
theorem w_frames : about1.frames = Frame.invoking theMethod args0 :: below0 := rfl
set_option maxRecDepth 65536 in
theorem w_args : argsFit about1.vm theMethod args0 = true := by decide +kernel
set_option maxRecDepth 65536 in
theorem w_heap : heapFits about1 = true := by decide +kernel
set_option maxRecDepth 65536 in
theorem w_runnable : about1.curStatus? = some .runnable := by decide +kernel
set_option maxRecDepth 65536 in
theorem w_alone : about1.alone = true := by decide +kernel
set_option maxRecDepth 65536 in
theorem w_named : about1.methodNamed? x = some theMethod := by decide +kernel
set_option maxRecDepth 65536 in
theorem w_hears : about1.hears theMethod below0 = true := by decide +kernel
set_option maxRecDepth 65536 in
theorem w_ripe : about1.ripe theMethod args0 below0 = true := by decide +kernel
theorem w_running : about1.status = .running := rfl
set_option maxRecDepth 65536 in
theorem w_room : about1.hasRoom e0.platform room_1 = true :=
  launch0.hasRoom_least _ room_1 (by decide +kernel) (by decide +kernel) (by decide +kernel) (by decide +kernel) (by decide +kernel) (by decide +kernel)
theorem allAtoms_all (ts : List Jvm.Cond) (a : Array Jvm.Value) (st : Jvm.State) : (allAtoms ts).before a st = ts.all (fun c => c.before a st) := by
  induction ts with
  | nil => rfl
  | cons c t ih =>
    show (Jvm.Cond.and c (allAtoms t)).before a st = _
    rw [Jvm.Cond.before_and, ih, List.all_cons]
def words1 : List Jvm.Cond := Jvm.Cond.code x code maxLocals ret :: tables_1
/-- a 'code' word, met by the world's own term for the bytes: nothing is compared byte by byte -/
theorem code_word {y : MethodName} {bytes : ByteArray} {mx : Nat} {rt : Option FieldType} {a : Array Value} {s : State} {m : MethodId} {meth : Method} {c : Code} (h1 : s.methodNamed? y = some m) (h2 : s.vm.method? m = some meth) (h3 : meth.code = some c) (h4 : c.code = bytes)
    (h5 : (c.maxLocals == mx && c.exceptionTable.isEmpty && decide (c.maxStack ≤ mostOperands) && decide (meth.sig.returnType = rt) && !meth.locks && decide (parseMethodDescriptor y.desc = some meth.sig)) = true) : (Jvm.Cond.code y bytes mx rt).before a s = true := by
  simp only [Bool.and_eq_true, beq_iff_eq, Bool.not_eq_true', decide_eq_true_eq] at h5
  obtain ⟨⟨⟨⟨⟨g1, g2⟩, g3⟩, g4⟩, g5⟩, g6⟩ := h5
  simp [Cond.before, Cond.holds, Cond.value, h1, h2, h3, h4, g1, g2, g3, g4, g5, g6]
def isCode : Jvm.Cond → Bool
  | .code _ _ _ _ => true
  | _ => false
theorem all_split {L : List Jvm.Cond} {P : Jvm.Cond → Bool} (h1 : L.all (fun c => isCode c || P c) = true) (h2 : ∀ c ∈ L.filter isCode, P c = true) : L.all P = true := by
  refine List.all_eq_true.mpr fun c hc => ?_
  have h := List.all_eq_true.mp h1 c hc
  rcases Bool.eq_false_or_eq_true (isCode c) with hi | hi
  · exact h2 c (List.mem_filter.mpr ⟨hc, hi⟩)
  · simpa [hi] using h
set_option maxRecDepth 65536 in
theorem w_c0 : (Jvm.Cond.code x code maxLocals ret).before args0 about1 = true := code_word (m := ⟨1, 2⟩) (meth := k1m2) (c := k1c2) (by decide +kernel) rfl rfl rfl (by decide +kernel)
set_option maxRecDepth 65536 in
theorem w_c1 : (Jvm.Cond.code ({ cls := "com/example/nestful/nestful/header/FieldText", name := "isTokenChar", desc := "(C)Z" } : Jvm.MethodName) prog_17_method_2_code (1 : Nat) (Option.some Jvm.ClassFile.FieldType.boolean)).before args0 about1 = true := code_word (m := ⟨2, 1⟩) (meth := k2m1) (c := k2c1) (by decide +kernel) rfl rfl rfl (by decide +kernel)
set_option maxRecDepth 65536 in
theorem w_c2 : (Jvm.Cond.code ({ cls := "java/lang/String", name := "indexOf", desc := "(I)I" } : Jvm.MethodName) jdk_42_method_79_code (2 : Nat) (Option.some Jvm.ClassFile.FieldType.int)).before args0 about1 = true := code_word (m := ⟨8, 2⟩) (meth := k8m2) (c := k8c2) (by decide +kernel) rfl rfl rfl (by decide +kernel)
set_option maxRecDepth 65536 in
theorem w_c3 : (Jvm.Cond.code ({ cls := "java/lang/String", name := "indexOf", desc := "(II)I" } : Jvm.MethodName) jdk_42_method_80_code (3 : Nat) (Option.some Jvm.ClassFile.FieldType.int)).before args0 about1 = true := code_word (m := ⟨8, 3⟩) (meth := k8m3) (c := k8c3) (by decide +kernel) rfl rfl rfl (by decide +kernel)
set_option maxRecDepth 65536 in
theorem w_c4 : (Jvm.Cond.code ({ cls := "java/lang/String", name := "isLatin1", desc := "()Z" } : Jvm.MethodName) jdk_42_method_154_code (1 : Nat) (Option.some Jvm.ClassFile.FieldType.boolean)).before args0 about1 = true := code_word (m := ⟨8, 5⟩) (meth := k8m5) (c := k8c5) (by decide +kernel) rfl rfl rfl (by decide +kernel)
set_option maxRecDepth 65536 in
theorem w_c5 : (Jvm.Cond.code ({ cls := "java/lang/String", name := "length", desc := "()I" } : Jvm.MethodName) jdk_42_method_54_code (1 : Nat) (Option.some Jvm.ClassFile.FieldType.int)).before args0 about1 = true := code_word (m := ⟨8, 1⟩) (meth := k8m1) (c := k8c1) (by decide +kernel) rfl rfl rfl (by decide +kernel)
set_option maxRecDepth 65536 in
theorem w_c6 : (Jvm.Cond.code ({ cls := "java/lang/String", name := "coder", desc := "()B" } : Jvm.MethodName) jdk_42_method_152_code (1 : Nat) (Option.some Jvm.ClassFile.FieldType.byte)).before args0 about1 = true := code_word (m := ⟨8, 4⟩) (meth := k8m4) (c := k8c4) (by decide +kernel) rfl rfl rfl (by decide +kernel)
set_option maxRecDepth 65536 in
theorem w_c7 : (Jvm.Cond.code ({ cls := "java/lang/StringLatin1", name := "indexOf", desc := "([BIII)I" } : Jvm.MethodName) jdk_43_method_22_code (4 : Nat) (Option.some Jvm.ClassFile.FieldType.int)).before args0 about1 = true := code_word (m := ⟨9, 2⟩) (meth := k9m2) (c := k9c2) (by decide +kernel) rfl rfl rfl (by decide +kernel)
set_option maxRecDepth 65536 in
theorem w_c8 : (Jvm.Cond.code ({ cls := "java/lang/StringLatin1", name := "canEncode", desc := "(I)Z" } : Jvm.MethodName) jdk_43_method_4_code (1 : Nat) (Option.some Jvm.ClassFile.FieldType.boolean)).before args0 about1 = true := code_word (m := ⟨9, 1⟩) (meth := k9m1) (c := k9c1) (by decide +kernel) rfl rfl rfl (by decide +kernel)
set_option maxRecDepth 65536 in
theorem w_c9 : (Jvm.Cond.code ({ cls := "java/lang/Math", name := "max", desc := "(II)I" } : Jvm.MethodName) jdk_29_method_65_code (2 : Nat) (Option.some Jvm.ClassFile.FieldType.int)).before args0 about1 = true := code_word (m := ⟨10, 1⟩) (meth := k10m1) (c := k10c1) (by decide +kernel) rfl rfl rfl (by decide +kernel)
set_option maxRecDepth 65536 in
theorem w_c10 : (Jvm.Cond.code ({ cls := "java/lang/Math", name := "min", desc := "(II)I" } : Jvm.MethodName) jdk_29_method_69_code (2 : Nat) (Option.some Jvm.ClassFile.FieldType.int)).before args0 about1 = true := code_word (m := ⟨10, 2⟩) (meth := k10m2) (c := k10c2) (by decide +kernel) rfl rfl rfl (by decide +kernel)
set_option maxRecDepth 65536 in
theorem w_c11 : (Jvm.Cond.code ({ cls := "java/lang/StringLatin1", name := "indexOfChar", desc := "([BIII)I" } : Jvm.MethodName) jdk_43_method_23_code (6 : Nat) (Option.some Jvm.ClassFile.FieldType.int)).before args0 about1 = true := code_word (m := ⟨9, 3⟩) (meth := k9m3) (c := k9c3) (by decide +kernel) rfl rfl rfl (by decide +kernel)
set_option maxRecDepth 65536 in
theorem w_c12 : (Jvm.Cond.code ({ cls := "com/example/nestful/nestful/header/FieldTextIsTokenCharPinLaw", name := "delimiter", desc := "(I)Z" } : Jvm.MethodName) method_2_code (1 : Nat) (Option.some Jvm.ClassFile.FieldType.boolean)).before args0 about1 = true := code_word (m := ⟨1, 1⟩) (meth := k1m1) (c := k1c1) (by decide +kernel) rfl rfl rfl (by decide +kernel)
def codes1 : List Jvm.Cond := [Jvm.Cond.code x code maxLocals ret, Jvm.Cond.code ({ cls := "com/example/nestful/nestful/header/FieldText", name := "isTokenChar", desc := "(C)Z" } : Jvm.MethodName) prog_17_method_2_code (1 : Nat) (Option.some Jvm.ClassFile.FieldType.boolean), Jvm.Cond.code ({ cls := "java/lang/String", name := "indexOf", desc := "(I)I" } : Jvm.MethodName) jdk_42_method_79_code (2 : Nat) (Option.some Jvm.ClassFile.FieldType.int), Jvm.Cond.code ({ cls := "java/lang/String", name := "indexOf", desc := "(II)I" } : Jvm.MethodName) jdk_42_method_80_code (3 : Nat) (Option.some Jvm.ClassFile.FieldType.int), Jvm.Cond.code ({ cls := "java/lang/String", name := "isLatin1", desc := "()Z" } : Jvm.MethodName) jdk_42_method_154_code (1 : Nat) (Option.some Jvm.ClassFile.FieldType.boolean), Jvm.Cond.code ({ cls := "java/lang/String", name := "length", desc := "()I" } : Jvm.MethodName) jdk_42_method_54_code (1 : Nat) (Option.some Jvm.ClassFile.FieldType.int), Jvm.Cond.code ({ cls := "java/lang/String", name := "coder", desc := "()B" } : Jvm.MethodName) jdk_42_method_152_code (1 : Nat) (Option.some Jvm.ClassFile.FieldType.byte), Jvm.Cond.code ({ cls := "java/lang/StringLatin1", name := "indexOf", desc := "([BIII)I" } : Jvm.MethodName) jdk_43_method_22_code (4 : Nat) (Option.some Jvm.ClassFile.FieldType.int), Jvm.Cond.code ({ cls := "java/lang/StringLatin1", name := "canEncode", desc := "(I)Z" } : Jvm.MethodName) jdk_43_method_4_code (1 : Nat) (Option.some Jvm.ClassFile.FieldType.boolean), Jvm.Cond.code ({ cls := "java/lang/Math", name := "max", desc := "(II)I" } : Jvm.MethodName) jdk_29_method_65_code (2 : Nat) (Option.some Jvm.ClassFile.FieldType.int), Jvm.Cond.code ({ cls := "java/lang/Math", name := "min", desc := "(II)I" } : Jvm.MethodName) jdk_29_method_69_code (2 : Nat) (Option.some Jvm.ClassFile.FieldType.int), Jvm.Cond.code ({ cls := "java/lang/StringLatin1", name := "indexOfChar", desc := "([BIII)I" } : Jvm.MethodName) jdk_43_method_23_code (6 : Nat) (Option.some Jvm.ClassFile.FieldType.int), Jvm.Cond.code ({ cls := "com/example/nestful/nestful/header/FieldTextIsTokenCharPinLaw", name := "delimiter", desc := "(I)Z" } : Jvm.MethodName) method_2_code (1 : Nat) (Option.some Jvm.ClassFile.FieldType.boolean)]
set_option maxRecDepth 65536 in
theorem codes_eq : words1.filter isCode = codes1 := rfl
theorem w_codes : ∀ c ∈ words1.filter isCode, c.before args0 about1 = true := by
  rw [codes_eq]
  intro c hc
  simp only [codes1, List.mem_cons, List.not_mem_nil, or_false] at hc
  rcases hc with rfl | rfl | rfl | rfl | rfl | rfl | rfl | rfl | rfl | rfl | rfl | rfl | rfl
  · exact w_c0
  · exact w_c1
  · exact w_c2
  · exact w_c3
  · exact w_c4
  · exact w_c5
  · exact w_c6
  · exact w_c7
  · exact w_c8
  · exact w_c9
  · exact w_c10
  · exact w_c11
  · exact w_c12
set_option maxRecDepth 65536 in
theorem w_t1 : (words1.take 24).all (fun c => isCode c || c.before args0 about1) = true := by decide +kernel
set_option maxRecDepth 65536 in
theorem w_t2 : ((words1.drop 24).take 24).all (fun c => isCode c || c.before args0 about1) = true := by decide +kernel
set_option maxRecDepth 65536 in
theorem w_t3 : ((words1.drop 24).drop 24).all (fun c => isCode c || c.before args0 about1) = true := by decide +kernel
theorem w_tables : (allAtoms (Jvm.Cond.code x code maxLocals ret :: tables_1)).before args0 about1 = true := by
  rw [allAtoms_all]
  show words1.all (fun c => c.before args0 about1) = true
  refine all_split ?_ w_codes
  rw [← List.take_append_drop 24 words1, List.all_append, w_t1, ← List.take_append_drop 24 (words1.drop 24), List.all_append, w_t2, w_t3]
  rfl
set_option maxRecDepth 65536 in
theorem w_rest : rest_1_c.before args0 about1 = true := by decide +kernel
set_option maxRecDepth 65536 in
theorem w_case : (Jvm.Cond.and given_1 narrow_1).before args0 about1 = true := by decide +kernel
set_option maxRecDepth 65536 in
theorem w_consts : constsHeld consts_1 about1 := Jvm.Lit.constsHeldB_iff.mp (by decide +kernel)
theorem w_applies : (headSpec (Jvm.Cond.code x code maxLocals ret :: tables_1) room_1).applies x e0.platform about1 = true :=
  (Spec.applies_iff w_frames).mpr ⟨w_running, w_runnable, w_alone, w_named, w_hears, w_ripe, w_room, w_tables⟩
theorem atStart : AtStart classFile x code maxLocals ret World_1 tables_1 room_1 Calls_1 rest_1 Pre_1 launch0 p0 e0 about1 theMethod args0 below0 :=
  ⟨lists_1, trivial, launch0.admits_env _ _ _, launch0.least_env, fairChoices_fair.cas, fairChoices_fair.clock, w_frames, w_args, w_heap, w_applies, ⟨w_consts, trivial⟩, w_rest, w_case⟩
end start1
theorem witness_1 : WitnessClaimed_1 := ⟨start1.p0, start1.e0, start1.about1, start1.theMethod, start1.args0, start1.below0, start1.atStart⟩
end Jvm.Pilot.@@N@@
