import JvmDerived
import JvmDerived.Pilot.@@N@@Statement
import JvmDerived.Pilot.@@N@@Code
set_option linter.unusedVariables false
set_option linter.unusedSimpArgs false
@@BLOCK:NumsL.lean.txt@@
namespace Jvm.Pilot.@@N@@
open Jvm Jvm.ClassFile Sem Op Lib Jvm.Free Jvm.Stand Jvm.LawKit Jvm.RoadKit Bundle Jvm.Pilot.@@N@@.Jvm.D
section Own
variable {p : Program} {l : Launch} {e : Env} {R : Room} {s : State} {m : MethodId} {args : Array Value} {below : List Frame} {meth : Method} {c : Code} {Z : State} {a0 : Array Value} {own nm : String} {bs : ByteArray} {ml : Nat} {rt : Option FieldType} {n0 kc ks : Nat} {Q : Option Value → Heap → Prop} {F : Outcome → State → Prop} {T : State} {h : Heap} {k n : Nat} {pc pc' pc2 : Nat} {ls ls' : Array Slot} {st : List Value}
/-- all that a walk knows where it stands -/
def Here (p : Program) (l : Launch) (e : Env) (R : Room) (s : State) (m : MethodId) (args : Array Value) (below : List Frame) (meth : Method) (c : Code) (Z : State) (own nm : String) (bs : ByteArray) (ml : Nat) (rt : Option FieldType) (n0 : Nat) (T : State) (h : Heap) (k n : Nat) : Prop :=
  (p.tables.exec = Jvm.exec ∧ c.code = bs ∧ c.maxLocals = ml ∧ Z.Warmed39 s.vm ∧ s.vm.findClass own = some m.cls ∧ meth.name = nm ∧ meth.sig.returnType = rt ∧ meth.locks = false) ∧ n0 ≤ h.size ∧ T.heap = h ∧ ∃ locs, Stand p l e R s m args below meth c T locs k n ∧ Fr n0 locs
/-- from here the method returns, as Q says -/
def Run (p : Program) (e : Env) (below : List Frame) (F : Outcome → State → Prop) (T : State) (g : JFrame) : Prop :=
  ∃ s₂ o, Steps p.tables e below (T.setTop g) s₂ ∧ s₂.status = .running ∧ Ended s₂ below o ∧ F o s₂
/-- what a body's end owes -/
def Fnl (s : State) (n0 kc ks : Nat) (Q : Option Value → Heap → Prop) (o : Outcome) (s₂ : State) : Prop := ∃ v L, o = .returned v ∧ (Q v s₂.heap ∧ n0 ≤ s₂.heap.size ∧ Fr n0 L) ∧ FrameEnd s o s₂ L kc ks
/-- a body's contract -/
def Con (l : Launch) (Z : State) (y : MethodName) (bs : ByteArray) (ml : Nat) (rt : Option FieldType) (rm : Room) (as : Array Value) (h0 : Heap) (n0 kc ks : Nat) (Q : Option Value → Heap → Prop) : Prop :=
  ∀ ws, MetFree l y (head1 (Jvm.Cond.code y bs ml rt :: ws) rm) (fun a U => a = as ∧ Z.Warmed39 U.vm ∧ U.heap = h0) (fun _ _ _ _ _ => True) (fun _ U o U' => ∃ v L, o = .returned v ∧ (Q v U'.heap ∧ n0 ≤ U'.heap.size ∧ Fr n0 L) ∧ FrameEnd U o U' L kc ks)
theorem Run.of {T' : State} {g g' : JFrame} (q : ∀ t, Steps p.tables e below (T'.setTop g') t → Steps p.tables e below (T.setTop g) t) (r : Run p e below F T' g') : Run p e below F T g := by
  obtain ⟨s₂, o, w, r⟩ := r; exact ⟨s₂, o, q _ w, r⟩
theorem Con.of_body {y : MethodName} {rm : Room} {as : Array Value} (hp : plainName y.cls = true) (hef : ∀ m, entryFrame m as ml = mkF m 0 ls []) (Z0 : n0 ≤ h.size)
    (body : ∀ p e s m below meth c T, Here p l e rm s m as below meth c Z y.cls y.name bs ml rt n0 T h 0 0 → Run p e below (Fnl s n0 kc ks Q) T (mkF m 0 ls [])) : Con l Z y bs ml rt rm as h n0 kc ks Q := by
  intro ws
  refine MetFree.of_bodySF (plainFor_of_name hp) hisR ?_
  intro p e s m args below meth c s₁ Bd hml0 hP hK
  obtain ⟨rfl, hZ, hh⟩ := hP
  have e0 : s₁.heap = h := by rw [← hh, Bd.state]; rfl
  obtain ⟨s₂, o, q, r⟩ := body p e s m below meth c s₁ ⟨⟨Bd.exec, Bd.bytes, hml0, hZ, findClass_of_methodNamed Bd.named, (name_of_methodNamed Bd.named Bd.method).1, Bd.returns, Bd.notSynchronized⟩, Z0, e0, [], Stand.of_body Bd, Fr.nil n0⟩
  exact ⟨s₂, o, castTop (hef m) q, r⟩
theorem Here.sz (X : Here p l e R s m args below meth c Z own nm bs ml rt n0 T h k n) : n0 ≤ h.size := X.2.1
/-- the k-th word of the sheet -/
theorem wd (hw : ∀ d ∈ tables_1, d.before a0 Z = true) (i : Nat) {d : Jvm.Cond} (q : tables_1[i]? = some d) : d.before a0 Z = true := hw _ (List.mem_of_getElem? q)
def cnd : ClassFile.Cond → Int → Int → Prop
  | .eq, x, y => x = y
  | .ne, x, y => ¬ x = y
  | .lt, x, y => x < y
  | .ge, x, y => y ≤ x
  | .gt, x, y => y < x
  | .le, x, y => x ≤ y
theorem cnd_iff (cd : ClassFile.Cond) (x y : Int32) : if_icmp.holds cd x y = true ↔ cnd cd x.toInt y.toInt := by
  cases cd <;> simp [if_icmp.holds, cnd, Int32.lt_iff_toInt_lt, Int32.le_iff_toInt_le, ← Int32.toInt_inj]
theorem r_aloadN (X : Here p l e R s m args below meth c Z own nm bs ml rt n0 T h k n) {i : Fin 4} {a : Addr} (hd : decode bs pc = .ok (.aload_n i, 1)) (hl : ls[i.val]? = some (.val (.ref a))) (hp : pc + 1 = pc') (r : Run p e below F T (mkF m pc' ls (.ref a :: st))) : Run p e below F T (mkF m pc ls st) := by
  obtain ⟨⟨hx, hby, hml, hZ, hown, hnm, hret, hlk⟩, hs0, eT, locs, S, N⟩ := X
  subst hp
  exact Run.of (fun t q => XS.aloadN S.here hx rfl (hb hby hd) hl rfl q) r
theorem r_aload (X : Here p l e R s m args below meth c Z own nm bs ml rt n0 T h k n) {i : Nat} {a : Addr} (hd : decode bs pc = .ok (.aload i, 2)) (hl : ls[i]? = some (.val (.ref a))) (hp : pc + 2 = pc') (r : Run p e below F T (mkF m pc' ls (.ref a :: st))) : Run p e below F T (mkF m pc ls st) := by
  obtain ⟨⟨hx, hby, hml, hZ, hown, hnm, hret, hlk⟩, hs0, eT, locs, S, N⟩ := X
  subst hp
  exact Run.of (fun t q => XS.aload S.here hx rfl (hb hby hd) hl rfl q) r
theorem r_iloadN (X : Here p l e R s m args below meth c Z own nm bs ml rt n0 T h k n) {i : Fin 4} {v : Int32} (hd : decode bs pc = .ok (.iload_n i, 1)) (hl : ls[i.val]? = some (.val (.int v))) (hp : pc + 1 = pc') (r : Run p e below F T (mkF m pc' ls (.int v :: st))) : Run p e below F T (mkF m pc ls st) := by
  obtain ⟨⟨hx, hby, hml, hZ, hown, hnm, hret, hlk⟩, hs0, eT, locs, S, N⟩ := X
  subst hp
  exact Run.of (fun t q => XS.iloadN S.here hx rfl (hb hby hd) hl q) r
theorem r_iload (X : Here p l e R s m args below meth c Z own nm bs ml rt n0 T h k n) {i : Nat} {v : Int32} (hd : decode bs pc = .ok (.iload i, 2)) (hl : ls[i]? = some (.val (.int v))) (hp : pc + 2 = pc') (r : Run p e below F T (mkF m pc' ls (.int v :: st))) : Run p e below F T (mkF m pc ls st) := by
  obtain ⟨⟨hx, hby, hml, hZ, hown, hnm, hret, hlk⟩, hs0, eT, locs, S, N⟩ := X
  subst hp
  exact Run.of (fun t q => XS.iload S.here hx rfl (hb hby hd) hl q) r
theorem r_lloadN (X : Here p l e R s m args below meth c Z own nm bs ml rt n0 T h k n) {i : Fin 4} {v : Int64} (hd : decode bs pc = .ok (.lload_n i, 1)) (hl : ls[i.val]? = some (.val (.long v))) (hp : pc + 1 = pc') (r : Run p e below F T (mkF m pc' ls (.long v :: st))) : Run p e below F T (mkF m pc ls st) := by
  obtain ⟨⟨hx, hby, hml, hZ, hown, hnm, hret, hlk⟩, hs0, eT, locs, S, N⟩ := X
  subst hp
  exact Run.of (fun t q => XT.lloadN S.here hx rfl (hb hby hd) hl q) r
theorem r_lload (X : Here p l e R s m args below meth c Z own nm bs ml rt n0 T h k n) {i : Nat} {v : Int64} (hd : decode bs pc = .ok (.lload i, 2)) (hl : ls[i]? = some (.val (.long v))) (hp : pc + 2 = pc') (r : Run p e below F T (mkF m pc' ls (.long v :: st))) : Run p e below F T (mkF m pc ls st) := by
  obtain ⟨⟨hx, hby, hml, hZ, hown, hnm, hret, hlk⟩, hs0, eT, locs, S, N⟩ := X
  subst hp
  exact Run.of (fun t q => XT.lload S.here hx rfl (hb hby hd) hl q) r
theorem r_istoreN (X : Here p l e R s m args below meth c Z own nm bs ml rt n0 T h k n) {i : Fin 4} {v : Int32} (hd : decode bs pc = .ok (.istore_n i, 1)) (hl : storeLocals ls i.val (.int v) = some ls') (hp : pc + 1 = pc') (r : Run p e below F T (mkF m pc' ls' st)) : Run p e below F T (mkF m pc ls (.int v :: st)) := by
  obtain ⟨⟨hx, hby, hml, hZ, hown, hnm, hret, hlk⟩, hs0, eT, locs, S, N⟩ := X
  subst hp
  exact Run.of (fun t q => XS.istoreN S.here hx rfl (hb hby hd) rfl hl q) r
theorem r_istore (X : Here p l e R s m args below meth c Z own nm bs ml rt n0 T h k n) {i : Nat} {v : Int32} (hd : decode bs pc = .ok (.istore i, 2)) (hl : storeLocals ls i (.int v) = some ls') (hp : pc + 2 = pc') (r : Run p e below F T (mkF m pc' ls' st)) : Run p e below F T (mkF m pc ls (.int v :: st)) := by
  obtain ⟨⟨hx, hby, hml, hZ, hown, hnm, hret, hlk⟩, hs0, eT, locs, S, N⟩ := X
  subst hp
  exact Run.of (fun t q => XS.istore S.here hx rfl (hb hby hd) rfl hl q) r
theorem r_lstoreN (X : Here p l e R s m args below meth c Z own nm bs ml rt n0 T h k n) {i : Fin 4} {v : Int64} (hd : decode bs pc = .ok (.lstore_n i, 1)) (hl : storeLocals ls i.val (.long v) = some ls') (hp : pc + 1 = pc') (r : Run p e below F T (mkF m pc' ls' st)) : Run p e below F T (mkF m pc ls (.long v :: st)) := by
  obtain ⟨⟨hx, hby, hml, hZ, hown, hnm, hret, hlk⟩, hs0, eT, locs, S, N⟩ := X
  subst hp
  exact Run.of (fun t q => XT.lstoreN S.here hx rfl (hb hby hd) rfl hl q) r
theorem r_lstore (X : Here p l e R s m args below meth c Z own nm bs ml rt n0 T h k n) {i : Nat} {v : Int64} (hd : decode bs pc = .ok (.lstore i, 2)) (hl : storeLocals ls i (.long v) = some ls') (hp : pc + 2 = pc') (r : Run p e below F T (mkF m pc' ls' st)) : Run p e below F T (mkF m pc ls (.long v :: st)) := by
  obtain ⟨⟨hx, hby, hml, hZ, hown, hnm, hret, hlk⟩, hs0, eT, locs, S, N⟩ := X
  subst hp
  exact Run.of (fun t q => XT.lstore S.here hx rfl (hb hby hd) rfl hl q) r
theorem r_astoreN (X : Here p l e R s m args below meth c Z own nm bs ml rt n0 T h k n) {i : Fin 4} {v : Addr} (hd : decode bs pc = .ok (.astore_n i, 1)) (hl : storeLocals ls i.val (.ref v) = some ls') (hp : pc + 1 = pc') (r : Run p e below F T (mkF m pc' ls' st)) : Run p e below F T (mkF m pc ls (.ref v :: st)) := by
  obtain ⟨⟨hx, hby, hml, hZ, hown, hnm, hret, hlk⟩, hs0, eT, locs, S, N⟩ := X
  subst hp
  exact Run.of (fun t q => XS.astoreN S.here hx rfl (hb hby hd) rfl rfl hl q) r
theorem r_astore (X : Here p l e R s m args below meth c Z own nm bs ml rt n0 T h k n) {i : Nat} {v : Addr} (hd : decode bs pc = .ok (.astore i, 2)) (hl : storeLocals ls i (.ref v) = some ls') (hp : pc + 2 = pc') (r : Run p e below F T (mkF m pc' ls' st)) : Run p e below F T (mkF m pc ls (.ref v :: st)) := by
  obtain ⟨⟨hx, hby, hml, hZ, hown, hnm, hret, hlk⟩, hs0, eT, locs, S, N⟩ := X
  subst hp
  exact Run.of (fun t q => XS.astore S.here hx rfl (hb hby hd) rfl rfl hl q) r
theorem r_iconst (X : Here p l e R s m args below meth c Z own nm bs ml rt n0 T h k n) {i : Int} {v : Int32} (hd : decode bs pc = .ok (.iconst i, 1)) (hv : Int32.ofInt i = v) (hp : pc + 1 = pc') (r : Run p e below F T (mkF m pc' ls (.int v :: st))) : Run p e below F T (mkF m pc ls st) := by
  obtain ⟨⟨hx, hby, hml, hZ, hown, hnm, hret, hlk⟩, hs0, eT, locs, S, N⟩ := X
  subst hp
  exact Run.of (fun t q => XS.iconst S.here hx rfl (hb hby hd) (by rw [hv]; exact q)) r
theorem r_bipush (X : Here p l e R s m args below meth c Z own nm bs ml rt n0 T h k n) {i : Int} {v : Int32} (hd : decode bs pc = .ok (.bipush i, 2)) (hv : (Int8.ofInt i).toInt32 = v) (hp : pc + 2 = pc') (r : Run p e below F T (mkF m pc' ls (.int v :: st))) : Run p e below F T (mkF m pc ls st) := by
  obtain ⟨⟨hx, hby, hml, hZ, hown, hnm, hret, hlk⟩, hs0, eT, locs, S, N⟩ := X
  subst hp
  exact Run.of (fun t q => XS.bipush S.here hx rfl (hb hby hd) (by rw [hv]; exact q)) r
theorem r_sipush (X : Here p l e R s m args below meth c Z own nm bs ml rt n0 T h k n) {i : Int} {v : Int32} (hd : decode bs pc = .ok (.sipush i, 3)) (hv : (Int16.ofInt i).toInt32 = v) (hp : pc + 3 = pc') (r : Run p e below F T (mkF m pc' ls (.int v :: st))) : Run p e below F T (mkF m pc ls st) := by
  obtain ⟨⟨hx, hby, hml, hZ, hown, hnm, hret, hlk⟩, hs0, eT, locs, S, N⟩ := X
  subst hp
  exact Run.of (fun t q => XS.sipush S.here hx rfl (hb hby hd) (by rw [hv]; exact q)) r
theorem r_lconst (X : Here p l e R s m args below meth c Z own nm bs ml rt n0 T h k n) {i : Fin 2} {v : Int64} (hd : decode bs pc = .ok (.lconst i, 1)) (hv : Int64.ofNat i = v) (hp : pc + 1 = pc') (r : Run p e below F T (mkF m pc' ls (.long v :: st))) : Run p e below F T (mkF m pc ls st) := by
  obtain ⟨⟨hx, hby, hml, hZ, hown, hnm, hret, hlk⟩, hs0, eT, locs, S, N⟩ := X
  subst hp
  exact Run.of (fun t q => XT.lconst S.here hx rfl (hb hby hd) (by rw [hv]; exact q)) r
theorem r_ldcI (X : Here p l e R s m args below meth c Z own nm bs ml rt n0 T h k n) {i : Nat} {v : Int32} (hd : decode bs pc = .ok (.ldc i, 2)) (w : (Jvm.Cond.constant own i v).before a0 Z = true) (hp : pc + 2 = pc') (r : Run p e below F T (mkF m pc' ls (.int v :: st))) : Run p e below F T (mkF m pc ls st) := by
  obtain ⟨⟨hx, hby, hml, hZ, hown, hnm, hret, hlk⟩, hs0, eT, locs, S, N⟩ := X
  subst hp
  exact Run.of (fun t q => S.ldcI hx hown (mvT hZ w) rfl (hb hby hd) q) r
theorem r_ldc2J (X : Here p l e R s m args below meth c Z own nm bs ml rt n0 T h k n) {i : Nat} {v : Int64} (hd : decode bs pc = .ok (.ldc2_w i, 3)) (w : (Jvm.Cond.constantLong own i v).before a0 Z = true) (hp : pc + 3 = pc') (r : Run p e below F T (mkF m pc' ls (.long v :: st))) : Run p e below F T (mkF m pc ls st) := by
  obtain ⟨⟨hx, hby, hml, hZ, hown, hnm, hret, hlk⟩, hs0, eT, locs, S, N⟩ := X
  subst hp
  exact Run.of (fun t q => S.ldc2J hx hown (mvT hZ w) rfl (hb hby hd) q) r
theorem r_iadd (X : Here p l e R s m args below meth c Z own nm bs ml rt n0 T h k n) {x y z : Int32} (hd : decode bs pc = .ok (.iadd, 1)) (hv : x + y = z) (hp : pc + 1 = pc') (r : Run p e below F T (mkF m pc' ls (.int z :: st))) : Run p e below F T (mkF m pc ls (.int y :: .int x :: st)) := by
  obtain ⟨⟨hx, hby, hml, hZ, hown, hnm, hret, hlk⟩, hs0, eT, locs, S, N⟩ := X
  subst hp
  exact Run.of (fun t q => XS.iadd S.here hx rfl (hb hby hd) rfl (by rw [hv]; exact q)) r
theorem r_isub (X : Here p l e R s m args below meth c Z own nm bs ml rt n0 T h k n) {x y z : Int32} (hd : decode bs pc = .ok (.isub, 1)) (hv : x - y = z) (hp : pc + 1 = pc') (r : Run p e below F T (mkF m pc' ls (.int z :: st))) : Run p e below F T (mkF m pc ls (.int y :: .int x :: st)) := by
  obtain ⟨⟨hx, hby, hml, hZ, hown, hnm, hret, hlk⟩, hs0, eT, locs, S, N⟩ := X
  subst hp
  exact Run.of (fun t q => XS.isub S.here hx rfl (hb hby hd) rfl (by rw [hv]; exact q)) r
theorem r_imul (X : Here p l e R s m args below meth c Z own nm bs ml rt n0 T h k n) {x y z : Int32} (hd : decode bs pc = .ok (.imul, 1)) (hv : x * y = z) (hp : pc + 1 = pc') (r : Run p e below F T (mkF m pc' ls (.int z :: st))) : Run p e below F T (mkF m pc ls (.int y :: .int x :: st)) := by
  obtain ⟨⟨hx, hby, hml, hZ, hown, hnm, hret, hlk⟩, hs0, eT, locs, S, N⟩ := X
  subst hp
  exact Run.of (fun t q => XS.imul S.here hx rfl (hb hby hd) rfl (by rw [hv]; exact q)) r
theorem r_iand (X : Here p l e R s m args below meth c Z own nm bs ml rt n0 T h k n) {x y z : Int32} (hd : decode bs pc = .ok (.iand, 1)) (hv : x &&& y = z) (hp : pc + 1 = pc') (r : Run p e below F T (mkF m pc' ls (.int z :: st))) : Run p e below F T (mkF m pc ls (.int y :: .int x :: st)) := by
  obtain ⟨⟨hx, hby, hml, hZ, hown, hnm, hret, hlk⟩, hs0, eT, locs, S, N⟩ := X
  subst hp
  exact Run.of (fun t q => XS.iand S.here hx rfl (hb hby hd) rfl (by rw [hv]; exact q)) r
theorem r_ior (X : Here p l e R s m args below meth c Z own nm bs ml rt n0 T h k n) {x y z : Int32} (hd : decode bs pc = .ok (.ior, 1)) (hv : x ||| y = z) (hp : pc + 1 = pc') (r : Run p e below F T (mkF m pc' ls (.int z :: st))) : Run p e below F T (mkF m pc ls (.int y :: .int x :: st)) := by
  obtain ⟨⟨hx, hby, hml, hZ, hown, hnm, hret, hlk⟩, hs0, eT, locs, S, N⟩ := X
  subst hp
  exact Run.of (fun t q => XT.ior S.here hx rfl (hb hby hd) rfl (by rw [hv]; exact q)) r
theorem r_ixor (X : Here p l e R s m args below meth c Z own nm bs ml rt n0 T h k n) {x y z : Int32} (hd : decode bs pc = .ok (.ixor, 1)) (hv : x ^^^ y = z) (hp : pc + 1 = pc') (r : Run p e below F T (mkF m pc' ls (.int z :: st))) : Run p e below F T (mkF m pc ls (.int y :: .int x :: st)) := by
  obtain ⟨⟨hx, hby, hml, hZ, hown, hnm, hret, hlk⟩, hs0, eT, locs, S, N⟩ := X
  subst hp
  exact Run.of (fun t q => XT.ixor S.here hx rfl (hb hby hd) rfl (by rw [hv]; exact q)) r
theorem r_ishl (X : Here p l e R s m args below meth c Z own nm bs ml rt n0 T h k n) {x y z : Int32} (hd : decode bs pc = .ok (.ishl, 1)) (hv : x <<< (y &&& 31) = z) (hp : pc + 1 = pc') (r : Run p e below F T (mkF m pc' ls (.int z :: st))) : Run p e below F T (mkF m pc ls (.int y :: .int x :: st)) := by
  obtain ⟨⟨hx, hby, hml, hZ, hown, hnm, hret, hlk⟩, hs0, eT, locs, S, N⟩ := X
  subst hp
  exact Run.of (fun t q => XT.ishl S.here hx rfl (hb hby hd) rfl (by rw [hv]; exact q)) r
theorem r_ishr (X : Here p l e R s m args below meth c Z own nm bs ml rt n0 T h k n) {x y z : Int32} (hd : decode bs pc = .ok (.ishr, 1)) (hv : x >>> (y &&& 31) = z) (hp : pc + 1 = pc') (r : Run p e below F T (mkF m pc' ls (.int z :: st))) : Run p e below F T (mkF m pc ls (.int y :: .int x :: st)) := by
  obtain ⟨⟨hx, hby, hml, hZ, hown, hnm, hret, hlk⟩, hs0, eT, locs, S, N⟩ := X
  subst hp
  exact Run.of (fun t q => XT.ishr S.here hx rfl (hb hby hd) rfl (by rw [hv]; exact q)) r
theorem r_iushr (X : Here p l e R s m args below meth c Z own nm bs ml rt n0 T h k n) {x y z : Int32} (hd : decode bs pc = .ok (.iushr, 1)) (hv : XT.ushr x y = z) (hp : pc + 1 = pc') (r : Run p e below F T (mkF m pc' ls (.int z :: st))) : Run p e below F T (mkF m pc ls (.int y :: .int x :: st)) := by
  obtain ⟨⟨hx, hby, hml, hZ, hown, hnm, hret, hlk⟩, hs0, eT, locs, S, N⟩ := X
  subst hp
  exact Run.of (fun t q => XT.iushr S.here hx rfl (hb hby hd) rfl (by rw [hv]; exact q)) r
theorem r_irem (X : Here p l e R s m args below meth c Z own nm bs ml rt n0 T h k n) {x y z : Int32} (hd : decode bs pc = .ok (.irem, 1)) (hy : y ≠ 0) (hv : x % y = z) (hp : pc + 1 = pc') (r : Run p e below F T (mkF m pc' ls (.int z :: st))) : Run p e below F T (mkF m pc ls (.int y :: .int x :: st)) := by
  obtain ⟨⟨hx, hby, hml, hZ, hown, hnm, hret, hlk⟩, hs0, eT, locs, S, N⟩ := X
  subst hp
  exact Run.of (fun t q => iremM S hx rfl (hb hby hd) rfl hy (by rw [hv]; exact q)) r
theorem r_idiv (X : Here p l e R s m args below meth c Z own nm bs ml rt n0 T h k n) {x y z : Int32} (hd : decode bs pc = .ok (.idiv, 1)) (hy : y ≠ 0) (hv : x / y = z) (hp : pc + 1 = pc') (r : Run p e below F T (mkF m pc' ls (.int z :: st))) : Run p e below F T (mkF m pc ls (.int y :: .int x :: st)) := by
  obtain ⟨⟨hx, hby, hml, hZ, hown, hnm, hret, hlk⟩, hs0, eT, locs, S, N⟩ := X
  subst hp
  exact Run.of (fun t q => XS.idiv S.here hx rfl (hb hby hd) rfl hy (by rw [hv]; exact q)) r
theorem r_ladd (X : Here p l e R s m args below meth c Z own nm bs ml rt n0 T h k n) {x y z : Int64} (hd : decode bs pc = .ok (.ladd, 1)) (hv : x + y = z) (hp : pc + 1 = pc') (r : Run p e below F T (mkF m pc' ls (.long z :: st))) : Run p e below F T (mkF m pc ls (.long y :: .long x :: st)) := by
  obtain ⟨⟨hx, hby, hml, hZ, hown, hnm, hret, hlk⟩, hs0, eT, locs, S, N⟩ := X
  subst hp
  exact Run.of (fun t q => XT.ladd S.here hx rfl (hb hby hd) rfl (by rw [hv]; exact q)) r
theorem r_lsub (X : Here p l e R s m args below meth c Z own nm bs ml rt n0 T h k n) {x y z : Int64} (hd : decode bs pc = .ok (.lsub, 1)) (hv : x - y = z) (hp : pc + 1 = pc') (r : Run p e below F T (mkF m pc' ls (.long z :: st))) : Run p e below F T (mkF m pc ls (.long y :: .long x :: st)) := by
  obtain ⟨⟨hx, hby, hml, hZ, hown, hnm, hret, hlk⟩, hs0, eT, locs, S, N⟩ := X
  subst hp
  exact Run.of (fun t q => XT.lsub S.here hx rfl (hb hby hd) rfl (by rw [hv]; exact q)) r
theorem r_lmul (X : Here p l e R s m args below meth c Z own nm bs ml rt n0 T h k n) {x y z : Int64} (hd : decode bs pc = .ok (.lmul, 1)) (hv : x * y = z) (hp : pc + 1 = pc') (r : Run p e below F T (mkF m pc' ls (.long z :: st))) : Run p e below F T (mkF m pc ls (.long y :: .long x :: st)) := by
  obtain ⟨⟨hx, hby, hml, hZ, hown, hnm, hret, hlk⟩, hs0, eT, locs, S, N⟩ := X
  subst hp
  exact Run.of (fun t q => XT.lmul S.here hx rfl (hb hby hd) rfl (by rw [hv]; exact q)) r
theorem r_land (X : Here p l e R s m args below meth c Z own nm bs ml rt n0 T h k n) {x y z : Int64} (hd : decode bs pc = .ok (.land, 1)) (hv : x &&& y = z) (hp : pc + 1 = pc') (r : Run p e below F T (mkF m pc' ls (.long z :: st))) : Run p e below F T (mkF m pc ls (.long y :: .long x :: st)) := by
  obtain ⟨⟨hx, hby, hml, hZ, hown, hnm, hret, hlk⟩, hs0, eT, locs, S, N⟩ := X
  subst hp
  exact Run.of (fun t q => XT.land S.here hx rfl (hb hby hd) rfl (by rw [hv]; exact q)) r
theorem r_lor (X : Here p l e R s m args below meth c Z own nm bs ml rt n0 T h k n) {x y z : Int64} (hd : decode bs pc = .ok (.lor, 1)) (hv : x ||| y = z) (hp : pc + 1 = pc') (r : Run p e below F T (mkF m pc' ls (.long z :: st))) : Run p e below F T (mkF m pc ls (.long y :: .long x :: st)) := by
  obtain ⟨⟨hx, hby, hml, hZ, hown, hnm, hret, hlk⟩, hs0, eT, locs, S, N⟩ := X
  subst hp
  exact Run.of (fun t q => XT.lor S.here hx rfl (hb hby hd) rfl (by rw [hv]; exact q)) r
theorem r_lxor (X : Here p l e R s m args below meth c Z own nm bs ml rt n0 T h k n) {x y z : Int64} (hd : decode bs pc = .ok (.lxor, 1)) (hv : x ^^^ y = z) (hp : pc + 1 = pc') (r : Run p e below F T (mkF m pc' ls (.long z :: st))) : Run p e below F T (mkF m pc ls (.long y :: .long x :: st)) := by
  obtain ⟨⟨hx, hby, hml, hZ, hown, hnm, hret, hlk⟩, hs0, eT, locs, S, N⟩ := X
  subst hp
  exact Run.of (fun t q => XT.lxor S.here hx rfl (hb hby hd) rfl (by rw [hv]; exact q)) r
theorem r_ldiv (X : Here p l e R s m args below meth c Z own nm bs ml rt n0 T h k n) {x y z : Int64} (hd : decode bs pc = .ok (.ldiv, 1)) (hy : y ≠ 0) (hv : x / y = z) (hp : pc + 1 = pc') (r : Run p e below F T (mkF m pc' ls (.long z :: st))) : Run p e below F T (mkF m pc ls (.long y :: .long x :: st)) := by
  obtain ⟨⟨hx, hby, hml, hZ, hown, hnm, hret, hlk⟩, hs0, eT, locs, S, N⟩ := X
  subst hp
  exact Run.of (fun t q => XT.ldiv S.here hx rfl (hb hby hd) rfl hy (by rw [hv]; exact q)) r
theorem r_lrem (X : Here p l e R s m args below meth c Z own nm bs ml rt n0 T h k n) {x y z : Int64} (hd : decode bs pc = .ok (.lrem, 1)) (hy : y ≠ 0) (hv : x - (x / y) * y = z) (hp : pc + 1 = pc') (r : Run p e below F T (mkF m pc' ls (.long z :: st))) : Run p e below F T (mkF m pc ls (.long y :: .long x :: st)) := by
  obtain ⟨⟨hx, hby, hml, hZ, hown, hnm, hret, hlk⟩, hs0, eT, locs, S, N⟩ := X
  subst hp
  exact Run.of (fun t q => XT.lrem S.here hx rfl (hb hby hd) rfl hy (by rw [hv]; exact q)) r
theorem r_lshl (X : Here p l e R s m args below meth c Z own nm bs ml rt n0 T h k n) {x z : Int64} {y : Int32} (hd : decode bs pc = .ok (.lshl, 1)) (hv : x <<< (y.toInt64 &&& 63) = z) (hp : pc + 1 = pc') (r : Run p e below F T (mkF m pc' ls (.long z :: st))) : Run p e below F T (mkF m pc ls (.int y :: .long x :: st)) := by
  obtain ⟨⟨hx, hby, hml, hZ, hown, hnm, hret, hlk⟩, hs0, eT, locs, S, N⟩ := X
  subst hp
  exact Run.of (fun t q => XT.lshl S.here hx rfl (hb hby hd) rfl (by rw [hv]; exact q)) r
theorem r_lshr (X : Here p l e R s m args below meth c Z own nm bs ml rt n0 T h k n) {x z : Int64} {y : Int32} (hd : decode bs pc = .ok (.lshr, 1)) (hv : x >>> (y.toInt64 &&& 63) = z) (hp : pc + 1 = pc') (r : Run p e below F T (mkF m pc' ls (.long z :: st))) : Run p e below F T (mkF m pc ls (.int y :: .long x :: st)) := by
  obtain ⟨⟨hx, hby, hml, hZ, hown, hnm, hret, hlk⟩, hs0, eT, locs, S, N⟩ := X
  subst hp
  exact Run.of (fun t q => XT.lshr S.here hx rfl (hb hby hd) rfl (by rw [hv]; exact q)) r
theorem r_lushr (X : Here p l e R s m args below meth c Z own nm bs ml rt n0 T h k n) {x z : Int64} {y : Int32} (hd : decode bs pc = .ok (.lushr, 1)) (hv : XT.ushrL x y = z) (hp : pc + 1 = pc') (r : Run p e below F T (mkF m pc' ls (.long z :: st))) : Run p e below F T (mkF m pc ls (.int y :: .long x :: st)) := by
  obtain ⟨⟨hx, hby, hml, hZ, hown, hnm, hret, hlk⟩, hs0, eT, locs, S, N⟩ := X
  subst hp
  exact Run.of (fun t q => XT.lushr S.here hx rfl (hb hby hd) rfl (by rw [hv]; exact q)) r
theorem r_i2b (X : Here p l e R s m args below meth c Z own nm bs ml rt n0 T h k n) {x z : Int32} (hd : decode bs pc = .ok (.i2b, 1)) (hv : x.toInt8.toInt32 = z) (hp : pc + 1 = pc') (r : Run p e below F T (mkF m pc' ls (.int z :: st))) : Run p e below F T (mkF m pc ls (.int x :: st)) := by
  obtain ⟨⟨hx, hby, hml, hZ, hown, hnm, hret, hlk⟩, hs0, eT, locs, S, N⟩ := X
  subst hp
  exact Run.of (fun t q => XT.i2b S.here hx rfl (hb hby hd) rfl (by rw [hv]; exact q)) r
theorem r_i2c (X : Here p l e R s m args below meth c Z own nm bs ml rt n0 T h k n) {x z : Int32} (hd : decode bs pc = .ok (.i2c, 1)) (hv : x.toUInt32.toUInt16.toUInt32.toInt32 = z) (hp : pc + 1 = pc') (r : Run p e below F T (mkF m pc' ls (.int z :: st))) : Run p e below F T (mkF m pc ls (.int x :: st)) := by
  obtain ⟨⟨hx, hby, hml, hZ, hown, hnm, hret, hlk⟩, hs0, eT, locs, S, N⟩ := X
  subst hp
  exact Run.of (fun t q => XT.i2c S.here hx rfl (hb hby hd) rfl (by rw [hv]; exact q)) r
theorem r_i2s (X : Here p l e R s m args below meth c Z own nm bs ml rt n0 T h k n) {x z : Int32} (hd : decode bs pc = .ok (.i2s, 1)) (hv : x.toInt16.toInt32 = z) (hp : pc + 1 = pc') (r : Run p e below F T (mkF m pc' ls (.int z :: st))) : Run p e below F T (mkF m pc ls (.int x :: st)) := by
  obtain ⟨⟨hx, hby, hml, hZ, hown, hnm, hret, hlk⟩, hs0, eT, locs, S, N⟩ := X
  subst hp
  exact Run.of (fun t q => XT.i2s S.here hx rfl (hb hby hd) rfl (by rw [hv]; exact q)) r
theorem r_i2l (X : Here p l e R s m args below meth c Z own nm bs ml rt n0 T h k n) {x : Int32} {z : Int64} (hd : decode bs pc = .ok (.i2l, 1)) (hv : x.toInt64 = z) (hp : pc + 1 = pc') (r : Run p e below F T (mkF m pc' ls (.long z :: st))) : Run p e below F T (mkF m pc ls (.int x :: st)) := by
  obtain ⟨⟨hx, hby, hml, hZ, hown, hnm, hret, hlk⟩, hs0, eT, locs, S, N⟩ := X
  subst hp
  exact Run.of (fun t q => XT.i2l S.here hx rfl (hb hby hd) rfl (by rw [hv]; exact q)) r
theorem r_l2i (X : Here p l e R s m args below meth c Z own nm bs ml rt n0 T h k n) {x : Int64} {z : Int32} (hd : decode bs pc = .ok (.l2i, 1)) (hv : x.toInt32 = z) (hp : pc + 1 = pc') (r : Run p e below F T (mkF m pc' ls (.int z :: st))) : Run p e below F T (mkF m pc ls (.long x :: st)) := by
  obtain ⟨⟨hx, hby, hml, hZ, hown, hnm, hret, hlk⟩, hs0, eT, locs, S, N⟩ := X
  subst hp
  exact Run.of (fun t q => XT.l2i S.here hx rfl (hb hby hd) rfl (by rw [hv]; exact q)) r
theorem r_lcmp (X : Here p l e R s m args below meth c Z own nm bs ml rt n0 T h k n) {x y : Int64} {z : Int32} (hd : decode bs pc = .ok (.lcmp, 1)) (hv : XT.cmpL x y = z) (hp : pc + 1 = pc') (r : Run p e below F T (mkF m pc' ls (.int z :: st))) : Run p e below F T (mkF m pc ls (.long y :: .long x :: st)) := by
  obtain ⟨⟨hx, hby, hml, hZ, hown, hnm, hret, hlk⟩, hs0, eT, locs, S, N⟩ := X
  subst hp
  exact Run.of (fun t q => XT.lcmp S.here hx rfl (hb hby hd) rfl (by rw [hv]; exact q)) r
theorem r_dup (X : Here p l e R s m args below meth c Z own nm bs ml rt n0 T h k n) {x : Value} (hd : decode bs pc = .ok (.dup, 1)) (hc : x.category = 1) (hp : pc + 1 = pc') (r : Run p e below F T (mkF m pc' ls (x :: x :: st))) : Run p e below F T (mkF m pc ls (x :: st)) := by
  obtain ⟨⟨hx, hby, hml, hZ, hown, hnm, hret, hlk⟩, hs0, eT, locs, S, N⟩ := X
  subst hp
  exact Run.of (fun t q => XS.dup S.here hx rfl (hb hby hd) rfl hc q) r
theorem r_dupX1 (X : Here p l e R s m args below meth c Z own nm bs ml rt n0 T h k n) {x y : Value} (hd : decode bs pc = .ok (.dup_x1, 1)) (hc : x.category = 1) (hc' : y.category = 1) (hp : pc + 1 = pc') (r : Run p e below F T (mkF m pc' ls (x :: y :: x :: st))) : Run p e below F T (mkF m pc ls (x :: y :: st)) := by
  obtain ⟨⟨hx, hby, hml, hZ, hown, hnm, hret, hlk⟩, hs0, eT, locs, S, N⟩ := X
  subst hp
  exact Run.of (fun t q => XT.dupX1 S.here hx rfl (hb hby hd) rfl hc hc' q) r
theorem r_pop (X : Here p l e R s m args below meth c Z own nm bs ml rt n0 T h k n) {x : Value} (hd : decode bs pc = .ok (.pop, 1)) (hc : x.category = 1) (hp : pc + 1 = pc') (r : Run p e below F T (mkF m pc' ls st)) : Run p e below F T (mkF m pc ls (x :: st)) := by
  obtain ⟨⟨hx, hby, hml, hZ, hown, hnm, hret, hlk⟩, hs0, eT, locs, S, N⟩ := X
  subst hp
  exact Run.of (fun t q => XT.pop S.here hx rfl (hb hby hd) rfl hc q) r
theorem r_iinc (X : Here p l e R s m args below meth c Z own nm bs ml rt n0 T h k n) {i : Nat} {d : Int} {x z : Int32} (hd : decode bs pc = .ok (.iinc i d, 3)) (hl : ls[i]? = some (.val (.int x))) (hv : x + Int32.ofInt d = z) (hl' : storeLocals ls i (.int z) = some ls') (hp : pc + 3 = pc') (r : Run p e below F T (mkF m pc' ls' st)) : Run p e below F T (mkF m pc ls st) := by
  obtain ⟨⟨hx, hby, hml, hZ, hown, hnm, hret, hlk⟩, hs0, eT, locs, S, N⟩ := X
  subst hp
  exact Run.of (fun t q => XS.iinc S.here hx rfl (hb hby hd) hl (by rw [hv]; exact hl') q) r
theorem r_goto (X : Here p l e R s m args below meth c Z own nm bs ml rt n0 T h k n) {o : Int} (hd : decode bs pc = .ok (.goto o, 3)) (ho : 0 ≤ (pc : Int) + o) (hp : ((pc : Int) + o).toNat = pc') (r : Run p e below F T (mkF m pc' ls st)) : Run p e below F T (mkF m pc ls st) := by
  obtain ⟨⟨hx, hby, hml, hZ, hown, hnm, hret, hlk⟩, hs0, eT, locs, S, N⟩ := X
  exact Run.of (fun t q => XS.goto S.here hx rfl rfl (hb hby hd) ho hp q) r
theorem r_icmp (X : Here p l e R s m args below meth c Z own nm bs ml rt n0 T h k n) {cd : ClassFile.Cond} {o : Int} (hd : decode bs pc = .ok (.if_icmp cd o, 3)) (ho : 0 ≤ (pc : Int) + o) (hp : ((pc : Int) + o).toNat = pc') (hp2 : pc + 3 = pc2) {x y : Int32} {a b : Int} (ha : x.toInt = a) (hb' : y.toInt = b) (yes : cnd cd a b → Run p e below F T (mkF m pc' ls st)) (no : ¬ cnd cd a b → Run p e below F T (mkF m pc2 ls st)) : Run p e below F T (mkF m pc ls (.int y :: .int x :: st)) := by
  obtain ⟨⟨hx, hby, hml, hZ, hown, hnm, hret, hlk⟩, hs0, eT, locs, S, N⟩ := X
  subst ha hb' hp2
  by_cases w : cnd cd x.toInt (y : Int32).toInt
  · exact Run.of (fun t q => XS.icmpYes S.here hx rfl rfl (hb hby hd) rfl (((cnd_iff cd x y).mpr w)) ho hp q) (yes w)
  · exact Run.of (fun t q => XS.icmpNo S.here hx rfl (hb hby hd) rfl ((Bool.eq_false_iff.mpr fun z => w ((cnd_iff cd x y).mp z))) q) (no w)
theorem r_icmpY (X : Here p l e R s m args below meth c Z own nm bs ml rt n0 T h k n) {cd : ClassFile.Cond} {o : Int} (hd : decode bs pc = .ok (.if_icmp cd o, 3)) (ho : 0 ≤ (pc : Int) + o) (hp : ((pc : Int) + o).toNat = pc') {x y : Int32} {a b : Int} (ha : x.toInt = a) (hb' : y.toInt = b) (w : cnd cd a b) (r : Run p e below F T (mkF m pc' ls st)) : Run p e below F T (mkF m pc ls (.int y :: .int x :: st)) :=
  r_icmp X hd ho hp rfl ha hb' (fun _ => r) (fun z => absurd w z)
theorem r_icmpN (X : Here p l e R s m args below meth c Z own nm bs ml rt n0 T h k n) {cd : ClassFile.Cond} {o : Int} (hd : decode bs pc = .ok (.if_icmp cd o, 3)) (ho : 0 ≤ (pc : Int) + o) (hp2 : pc + 3 = pc2) {x y : Int32} {a b : Int} (ha : x.toInt = a) (hb' : y.toInt = b) (w : ¬ cnd cd a b) (r : Run p e below F T (mkF m pc2 ls st)) : Run p e below F T (mkF m pc ls (.int y :: .int x :: st)) :=
  r_icmp X hd ho rfl hp2 ha hb' (fun z => absurd z w) (fun _ => r)
theorem r_if (X : Here p l e R s m args below meth c Z own nm bs ml rt n0 T h k n) {cd : ClassFile.Cond} {o : Int} (hd : decode bs pc = .ok (.ifCond cd o, 3)) (ho : 0 ≤ (pc : Int) + o) (hp : ((pc : Int) + o).toNat = pc') (hp2 : pc + 3 = pc2) {x : Int32} {a b : Int} (ha : x.toInt = a) (hb' : (0 : Int32).toInt = b) (yes : cnd cd a b → Run p e below F T (mkF m pc' ls st)) (no : ¬ cnd cd a b → Run p e below F T (mkF m pc2 ls st)) : Run p e below F T (mkF m pc ls (.int x :: st)) := by
  obtain ⟨⟨hx, hby, hml, hZ, hown, hnm, hret, hlk⟩, hs0, eT, locs, S, N⟩ := X
  subst ha hb' hp2
  by_cases w : cnd cd x.toInt (0 : Int32).toInt
  · exact Run.of (fun t q => XS.ifYes S.here hx rfl rfl (hb hby hd) rfl ((if0 _ _).trans ((cnd_iff cd x 0).mpr w)) ho hp q) (yes w)
  · exact Run.of (fun t q => XS.ifNo S.here hx rfl (hb hby hd) rfl ((if0 _ _).trans (Bool.eq_false_iff.mpr fun z => w ((cnd_iff cd x 0).mp z))) q) (no w)
theorem r_ifY (X : Here p l e R s m args below meth c Z own nm bs ml rt n0 T h k n) {cd : ClassFile.Cond} {o : Int} (hd : decode bs pc = .ok (.ifCond cd o, 3)) (ho : 0 ≤ (pc : Int) + o) (hp : ((pc : Int) + o).toNat = pc') {x : Int32} {a b : Int} (ha : x.toInt = a) (hb' : (0 : Int32).toInt = b) (w : cnd cd a b) (r : Run p e below F T (mkF m pc' ls st)) : Run p e below F T (mkF m pc ls (.int x :: st)) :=
  r_if X hd ho hp rfl ha hb' (fun _ => r) (fun z => absurd w z)
theorem r_ifN (X : Here p l e R s m args below meth c Z own nm bs ml rt n0 T h k n) {cd : ClassFile.Cond} {o : Int} (hd : decode bs pc = .ok (.ifCond cd o, 3)) (ho : 0 ≤ (pc : Int) + o) (hp2 : pc + 3 = pc2) {x : Int32} {a b : Int} (ha : x.toInt = a) (hb' : (0 : Int32).toInt = b) (w : ¬ cnd cd a b) (r : Run p e below F T (mkF m pc2 ls st)) : Run p e below F T (mkF m pc ls (.int x :: st)) :=
  r_if X hd ho rfl hp2 ha hb' (fun z => absurd z w) (fun _ => r)
theorem r_acmpN (X : Here p l e R s m args below meth c Z own nm bs ml rt n0 T h k n) {cd : ACond} {o : Int} {x y : Addr} (hd : decode bs pc = .ok (.if_acmp cd o, 3)) (hc : XT.acmp cd (.ref x) (.ref y) = false) (hp : pc + 3 = pc') (r : Run p e below F T (mkF m pc' ls st)) : Run p e below F T (mkF m pc ls (.ref y :: .ref x :: st)) := by
  obtain ⟨⟨hx, hby, hml, hZ, hown, hnm, hret, hlk⟩, hs0, eT, locs, S, N⟩ := X
  subst hp
  exact Run.of (fun t q => XT.acmpNo S.here hx rfl (hb hby hd) rfl rfl rfl hc q) r
theorem r_retN {ft : FieldType} (X : Here p l e R s m args below meth c Z own nm bs ml (some ft) n0 T h k n) (ht : ft = .boolean ∨ ft = .byte ∨ ft = .char ∨ ft = .short) (hd : decode bs pc = .ok (.ireturn, 1)) {z w : Int32} (hz : nar ft z = w) (hQ : Q (some (.int w)) h) (hk : k ≤ kc) (hn : n ≤ ks) : Run p e below (Fnl s n0 kc ks Q) T (mkF m pc ls (.int z :: st)) := by
  obtain ⟨⟨hx, hby, hml, hZ, hown, hnm, hret, hlk⟩, hs0, eT, locs, S, N⟩ := X
  subst hz
  obtain ⟨fs, hr, hrun, hended, hW, hsame⟩ := S.leave (v := some (.int (nar ft z))) (fun w => by rw [hret] at w; cases w)
  refine ⟨_, _, ?_, hrun, hended, _, _, rfl, ⟨?_, ?_, N⟩, ⟨_, rfl⟩, hW, hsame.mono hk hn⟩
  · exact retN S hx hret ht (hb hby hd) hr
  · show Q _ T.heap
    rw [eT]; exact hQ
  · show n0 ≤ T.heap.size
    rw [eT]; exact hs0
theorem r_retI (X : Here p l e R s m args below meth c Z own nm bs ml (some .int) n0 T h k n) (hd : decode bs pc = .ok (.ireturn, 1)) {z : Int32} (hQ : Q (some (.int z)) h) (hk : k ≤ kc) (hn : n ≤ ks) : Run p e below (Fnl s n0 kc ks Q) T (mkF m pc ls (.int z :: st)) := by
  obtain ⟨⟨hx, hby, hml, hZ, hown, hnm, hret, hlk⟩, hs0, eT, locs, S, N⟩ := X
  obtain ⟨fs, hr, hrun, hended, hW, hsame⟩ := S.leave (v := some (.int z)) (fun w => by rw [hret] at w; cases w)
  refine ⟨_, _, ?_, hrun, hended, _, _, rfl, ⟨?_, ?_, N⟩, ⟨_, rfl⟩, hW, hsame.mono hk hn⟩
  · exact retOut S hx hret rfl (Or.inl ⟨rfl, Or.inl rfl, _, rfl⟩) (hb hby hd) hr
  · show Q _ T.heap
    rw [eT]; exact hQ
  · show n0 ≤ T.heap.size
    rw [eT]; exact hs0
theorem r_retL (X : Here p l e R s m args below meth c Z own nm bs ml (some .long) n0 T h k n) (hd : decode bs pc = .ok (.lreturn, 1)) {z : Int64} (hQ : Q (some (.long z)) h) (hk : k ≤ kc) (hn : n ≤ ks) : Run p e below (Fnl s n0 kc ks Q) T (mkF m pc ls (.long z :: st)) := by
  obtain ⟨⟨hx, hby, hml, hZ, hown, hnm, hret, hlk⟩, hs0, eT, locs, S, N⟩ := X
  obtain ⟨fs, hr, hrun, hended, hW, hsame⟩ := S.leave (v := some (.long z)) (fun w => by rw [hret] at w; cases w)
  refine ⟨_, _, ?_, hrun, hended, _, _, rfl, ⟨?_, ?_, N⟩, ⟨_, rfl⟩, hW, hsame.mono hk hn⟩
  · exact retOut S hx hret rfl (Or.inr (Or.inl ⟨rfl, rfl, _, rfl⟩)) (hb hby hd) hr
  · show Q _ T.heap
    rw [eT]; exact hQ
  · show n0 ≤ T.heap.size
    rw [eT]; exact hs0
theorem r_retA {ft : FieldType} (X : Here p l e R s m args below meth c Z own nm bs ml (some ft) n0 T h k n) (ht : ft.isReference = true) (hd : decode bs pc = .ok (.areturn, 1)) {a : Addr} (hQ : Q (some (.ref a)) h) (hk : k ≤ kc) (hn : n ≤ ks) : Run p e below (Fnl s n0 kc ks Q) T (mkF m pc ls (.ref a :: st)) := by
  obtain ⟨⟨hx, hby, hml, hZ, hown, hnm, hret, hlk⟩, hs0, eT, locs, S, N⟩ := X
  obtain ⟨fs, hr, hrun, hended, hW, hsame⟩ := S.leave (v := some (.ref a)) (fun w => by rw [hret] at w; cases w)
  refine ⟨_, _, ?_, hrun, hended, _, _, rfl, ⟨?_, ?_, N⟩, ⟨_, rfl⟩, hW, hsame.mono hk hn⟩
  · exact retOut S hx hret (by cases ft <;> first | rfl | (exfalso; revert ht; decide)) (Or.inr (Or.inr (Or.inr (Or.inr ⟨rfl, ht, rfl⟩)))) (hb hby hd) hr
  · show Q _ T.heap
    rw [eT]; exact hQ
  · show n0 ≤ T.heap.size
    rw [eT]; exact hs0
theorem r_ret (X : Here p l e R s m args below meth c Z own nm bs ml none n0 T h k n) (hd : decode bs pc = .ok (.return_, 1)) (hQ : Q none h) (hk : k ≤ kc) (hn : n ≤ ks) : Run p e below (Fnl s n0 kc ks Q) T (mkF m pc ls []) := by
  obtain ⟨⟨hx, hby, hml, hZ, hown, hnm, hret, hlk⟩, hs0, eT, locs, S, N⟩ := X
  obtain ⟨fs, hr, hrun, hended, hW, hsame⟩ := S.leave (v := none) (fun _ => rfl)
  refine ⟨_, _, ?_, hrun, hended, _, _, rfl, ⟨?_, ?_, N⟩, ⟨_, rfl⟩, hW, hsame.mono hk hn⟩
  · exact S.returnOut hx hret (hb hby hd) hr
  · show Q _ T.heap
    rw [eT]; exact hQ
  · show n0 ≤ T.heap.size
    rw [eT]; exact hs0
/-- the array at a has N components of kind ty; the j-th holds the int f j -/
def Arf (Z : State) (h : Heap) (a : Addr) (ty : FieldType) (N : Nat) (f : Nat → Int32) : Prop := ∃ cl : Cell, Arr Z h a cl ty ∧ cl.slots.size = N ∧ ∀ j, j < N → cl.slots[j]? = some (.int (f j))
def upd (f : Nat → Int32) (i : Nat) (v : Int32) : Nat → Int32 := fun j => if j = i then v else f j
theorem upd_same (f : Nat → Int32) (i : Nat) (v : Int32) : upd f i v i = v := if_pos rfl
theorem upd_ne (f : Nat → Int32) {i j : Nat} (v : Int32) (q : j ≠ i) : upd f i v j = f j := if_neg q
theorem Arf.lt {a : Addr} {ty : FieldType} {N : Nat} {f : Nat → Int32} (A : Arf Z h a ty N f) : a < h.size := by obtain ⟨_, A, -⟩ := A; exact A.lt
theorem Arf.ext {a : Addr} {ty : FieldType} {N : Nat} {f : Nat → Int32} {h' : Heap} (A : Arf Z h a ty N f) (E : Ext h h') : Arf Z h' a ty N f := by obtain ⟨cl, A, r⟩ := A; exact ⟨cl, A.ext E, r⟩
theorem Arf.other {a b : Addr} {ty : FieldType} {N sl : Nat} {f : Nat → Int32} {h' : Heap} {v : Value} (A : Arf Z h b ty N f) (W : Wr h h' a sl v) (q : b ≠ a) : Arf Z h' b ty N f := by obtain ⟨cl, A, r⟩ := A; exact ⟨cl, A.other W q, r⟩
theorem Arf.keep {a : Addr} {ty : FieldType} {N : Nat} {f : Nat → Int32} {h' : Heap} {ws : List Addr} (A : Arf Z h a ty N f) (K : Keep h h' ws) (q : a ∉ ws) : Arf Z h' a ty N f := by obtain ⟨cl, A, r⟩ := A; exact ⟨cl, ⟨K.2.1 a cl A.1 q, A.2⟩, r⟩
theorem Arf.cast {a : Addr} {ty : FieldType} {N : Nat} {f g : Nat → Int32} (A : Arf Z h a ty N f) (q : ∀ j, j < N → f j = g j) : Arf Z h a ty N g := by obtain ⟨cl, A, S, H⟩ := A; exact ⟨cl, A, S, fun j hj => by rw [H j hj, q j hj]⟩
theorem Arf.set {a : Addr} {ty : FieldType} {N i : Nat} {f : Nat → Int32} {h' : Heap} {v : Int32} (A : Arf Z h a ty N f) (W : Wr h h' a i (.int v)) : Arf Z h' a ty N (upd f i v) := by
  obtain ⟨cl, A, S, H⟩ := A
  refine ⟨_, A.same W, by rw [sz_set]; exact S, fun j hj => ?_⟩
  by_cases q : j = i
  · subst q; rw [upd_same]; simp [Cell.setSlot, S, hj]
  · rw [upd_ne f v q]; simp only [Cell.setSlot]; rw [Array.getElem?_setIfInBounds_ne (Ne.symm q)]; exact H j hj
theorem ix_clamp {j : Int32} {i : Nat} (hj : j.toInt = i) : j.toNatClampNeg = i := by simp [Int32.toNatClampNeg, hj]
theorem ix_in {j : Int32} {i N : Nat} (hj : j.toInt = i) (hi : i < N) {cl : Cell} (S : cl.slots.size = N) : ¬ (j < 0 ∨ cl.slots.size ≤ j.toNatClampNeg) := by
  rw [ix_clamp hj, S, Int32.lt_iff_toInt_lt, hj]
  have e0 : (0 : Int32).toInt = 0 := rfl
  omega
theorem r_baload (X : Here p l e R s m args below meth c Z own nm bs ml rt n0 T h k n) {a : Addr} {N i : Nat} {f : Nat → Int32} {j v : Int32} (hd : decode bs pc = .ok (.baload, 1)) (A : Arf Z h a .byte N f) (hj : j.toInt = i) (hi : i < N) (hv : f i = v) (hp : pc + 1 = pc') (r : Run p e below F T (mkF m pc' ls (.int v :: st))) : Run p e below F T (mkF m pc ls (.int j :: .ref a :: st)) := by
  obtain ⟨⟨hx, hby, hml, hZ, hown, hnm, hret, hlk⟩, hs0, eT, locs, S, N⟩ := X
  subst hp hv
  obtain ⟨cl, A, SZ, H⟩ := A
  exact Run.of (fun t q => S.baloadBytes hx (j := j) (by rw [eT]; exact A.1) (State.isArrayOf_alike hZ.alike A.2.1) A.2.2 (ix_in hj hi SZ) (by rw [ix_clamp hj]; exact H i hi) (g := mkF m pc ls (.int j :: .ref a :: st)) rfl rfl (hb hby hd) t q) r
theorem r_caload (X : Here p l e R s m args below meth c Z own nm bs ml rt n0 T h k n) {a : Addr} {N i : Nat} {f : Nat → Int32} {j v : Int32} (hd : decode bs pc = .ok (.caload, 1)) (A : Arf Z h a .char N f) (hj : j.toInt = i) (hi : i < N) (hv : f i = v) (hp : pc + 1 = pc') (r : Run p e below F T (mkF m pc' ls (.int v :: st))) : Run p e below F T (mkF m pc ls (.int j :: .ref a :: st)) := by
  obtain ⟨⟨hx, hby, hml, hZ, hown, hnm, hret, hlk⟩, hs0, eT, locs, S, N⟩ := X
  subst hp hv
  obtain ⟨cl, A, SZ, H⟩ := A
  exact Run.of (fun t q => S.caload hx (j := j) (by rw [eT]; exact A.1) (State.isArrayOf_alike hZ.alike A.2.1) A.2.2 (ix_in hj hi SZ) (by rw [ix_clamp hj]; exact H i hi) (g := mkF m pc ls (.int j :: .ref a :: st)) rfl rfl (hb hby hd) t q) r
theorem r_iaload (X : Here p l e R s m args below meth c Z own nm bs ml rt n0 T h k n) {a : Addr} {N i : Nat} {f : Nat → Int32} {j v : Int32} (hd : decode bs pc = .ok (.iaload, 1)) (A : Arf Z h a .int N f) (hj : j.toInt = i) (hi : i < N) (hv : f i = v) (hp : pc + 1 = pc') (r : Run p e below F T (mkF m pc' ls (.int v :: st))) : Run p e below F T (mkF m pc ls (.int j :: .ref a :: st)) := by
  obtain ⟨⟨hx, hby, hml, hZ, hown, hnm, hret, hlk⟩, hs0, eT, locs, S, N⟩ := X
  subst hp hv
  obtain ⟨cl, A, SZ, H⟩ := A
  exact Run.of (fun t q => S.iaload hx (j := j) (by rw [eT]; exact A.1) (State.isArrayOf_alike hZ.alike A.2.1) A.2.2 (ix_in hj hi SZ) (by rw [ix_clamp hj]; exact H i hi) (g := mkF m pc ls (.int j :: .ref a :: st)) rfl rfl (hb hby hd) t q) r
theorem r_arraylength (X : Here p l e R s m args below meth c Z own nm bs ml rt n0 T h k n) {a : Addr} {ty : FieldType} {N : Nat} {f : Nat → Int32} {v : Int32} (hd : decode bs pc = .ok (.arraylength, 1)) (A : Arf Z h a ty N f) (hv : N.toInt32 = v) (hp : pc + 1 = pc') (r : Run p e below F T (mkF m pc' ls (.int v :: st))) : Run p e below F T (mkF m pc ls (.ref a :: st)) := by
  obtain ⟨⟨hx, hby, hml, hZ, hown, hnm, hret, hlk⟩, hs0, eT, locs, S, N⟩ := X
  subst hp hv
  obtain ⟨cl, A, SZ, H⟩ := A
  subst SZ
  exact Run.of (fun t q => S.arraylength hx (cell := cl) (by rw [eT]; exact A.1) (State.isArrayOf_alike hZ.alike A.2.1) (g := mkF m pc ls (.ref a :: st)) rfl rfl (hb hby hd) t q) r
theorem r_bastore (X : Here p l e R s m args below meth c Z own nm bs ml rt n0 T h k n) {a : Addr} {N i : Nat} {f : Nat → Int32} {j x v : Int32} (hd : decode bs pc = .ok (.bastore, 1)) (A : Arf Z h a .byte N f) (hj : j.toInt = i) (hi : i < N) (ge : n0 ≤ a) (hv : nar .byte x = v) (hp : pc + 1 = pc') (r : ∀ T' h', Here p l e R s m args below meth c Z own nm bs ml rt n0 T' h' k n → Wr h h' a i (.int v) → Arf Z h' a .byte N (upd f i v) → Run p e below F T' (mkF m pc' ls st)) : Run p e below F T (mkF m pc ls (.int x :: .int j :: .ref a :: st)) := by
  obtain ⟨⟨hx, hby, hml, hZ, hown, hnm, hret, hlk⟩, hs0, eT, locs, S, N_⟩ := X
  subst hp hv
  obtain ⟨cl, A, SZ, H⟩ := A
  obtain ⟨T', h', X', e', W, st'⟩ := stB S hx hZ eT A (j := j) (x := x) (ix_in hj hi SZ) (g := mkF m pc ls (.int x :: .int j :: .ref a :: st)) rfl rfl (hb hby hd)
  rw [ix_clamp hj] at W
  refine Run.of (fun t q => st' t q) (r T' h' ⟨⟨hx, hby, hml, hZ, hown, hnm, hret, hlk⟩, ?_, e', _, X', Fr.snoc X' N_ ge⟩ W (Arf.set ⟨cl, A, SZ, H⟩ W))
  rw [W.size]; exact hs0
theorem r_castore (X : Here p l e R s m args below meth c Z own nm bs ml rt n0 T h k n) {a : Addr} {N i : Nat} {f : Nat → Int32} {j x v : Int32} (hd : decode bs pc = .ok (.castore, 1)) (A : Arf Z h a .char N f) (hj : j.toInt = i) (hi : i < N) (ge : n0 ≤ a) (hv : nar .char x = v) (hp : pc + 1 = pc') (r : ∀ T' h', Here p l e R s m args below meth c Z own nm bs ml rt n0 T' h' k n → Wr h h' a i (.int v) → Arf Z h' a .char N (upd f i v) → Run p e below F T' (mkF m pc' ls st)) : Run p e below F T (mkF m pc ls (.int x :: .int j :: .ref a :: st)) := by
  obtain ⟨⟨hx, hby, hml, hZ, hown, hnm, hret, hlk⟩, hs0, eT, locs, S, N_⟩ := X
  subst hp hv
  obtain ⟨cl, A, SZ, H⟩ := A
  obtain ⟨T', h', X', e', W, st'⟩ := stC S hx hZ eT A (j := j) (x := x) (ix_in hj hi SZ) (g := mkF m pc ls (.int x :: .int j :: .ref a :: st)) rfl rfl (hb hby hd)
  rw [ix_clamp hj] at W
  refine Run.of (fun t q => st' t q) (r T' h' ⟨⟨hx, hby, hml, hZ, hown, hnm, hret, hlk⟩, ?_, e', _, X', Fr.snoc X' N_ ge⟩ W (Arf.set ⟨cl, A, SZ, H⟩ W))
  rw [W.size]; exact hs0
theorem r_iastore (X : Here p l e R s m args below meth c Z own nm bs ml rt n0 T h k n) {a : Addr} {N i : Nat} {f : Nat → Int32} {j x v : Int32} (hd : decode bs pc = .ok (.iastore, 1)) (A : Arf Z h a .int N f) (hj : j.toInt = i) (hi : i < N) (ge : n0 ≤ a) (hv : x = v) (hp : pc + 1 = pc') (r : ∀ T' h', Here p l e R s m args below meth c Z own nm bs ml rt n0 T' h' k n → Wr h h' a i (.int v) → Arf Z h' a .int N (upd f i v) → Run p e below F T' (mkF m pc' ls st)) : Run p e below F T (mkF m pc ls (.int x :: .int j :: .ref a :: st)) := by
  obtain ⟨⟨hx, hby, hml, hZ, hown, hnm, hret, hlk⟩, hs0, eT, locs, S, N_⟩ := X
  subst hp hv
  obtain ⟨cl, A, SZ, H⟩ := A
  obtain ⟨T', h', X', e', W, st'⟩ := stI S hx hZ eT A (j := j) (x := x) (ix_in hj hi SZ) (g := mkF m pc ls (.int x :: .int j :: .ref a :: st)) rfl rfl (hb hby hd)
  rw [ix_clamp hj] at W
  refine Run.of (fun t q => st' t q) (r T' h' ⟨⟨hx, hby, hml, hZ, hown, hnm, hret, hlk⟩, ?_, e', _, X', Fr.snoc X' N_ ge⟩ W (Arf.set ⟨cl, A, SZ, H⟩ W))
  rw [W.size]; exact hs0
theorem r_newarray (X : Here p l e R s m args below meth c Z own nm bs ml rt n0 T h k n) {aty : ArrayType} {z : Int32} {N : Nat} (hd : decode bs pc = .ok (.newarray aty, 2)) (w : (Jvm.Cond.arrayClass (newarray.typeOf aty)).before a0 Z = true) (hz : z.toInt = N) (hdf : defaultValue (newarray.typeOf aty) = .int 0) (hb8 : N * 8 ≤ 536870912) (hc : k + 1 ≤ R.cells) (hl : n + N ≤ R.slots) (hp : pc + 2 = pc') (r : ∀ T' h' b, Here p l e R s m args below meth c Z own nm bs ml rt n0 T' h' (k + 1) (n + N) → b = h.size → n0 ≤ b → Ext h h' → Arf Z h' b (newarray.typeOf aty) N (fun _ => 0) → Run p e below F T' (mkF m pc' ls (.ref b :: st))) : Run p e below F T (mkF m pc ls (.int z :: st)) := by
  obtain ⟨⟨hx, hby, hml, hZ, hown, hnm, hret, hlk⟩, hs0, eT, locs, S, N_⟩ := X
  subst hp
  have hneg : ¬ z < 0 := by
    rw [Int32.lt_iff_toInt_lt, hz]
    have e0 : (0 : Int32).toInt = 0 := rfl
    omega
  obtain ⟨T', h', cA, X', e', E, A, st'⟩ := newP S hx hZ w eT (g := mkF m pc ls (.int z :: st)) rfl (hb hby hd) rfl hneg (cap := N) (Nat.le_of_eq (ix_clamp hz)) hb8 hc hl
  refine Run.of (fun t q => st' t q) (r T' h' h.size ⟨⟨hx, hby, hml, hZ, hown, hnm, hret, hlk⟩, Nat.le_trans hs0 E.1, e', _, X', N_⟩ rfl hs0 E ⟨_, A, (sz_new _ _ _).trans (ix_clamp hz), fun j hj => ?_⟩)
  simp [newA, ix_clamp hz, hj, hdf]
theorem r_new (X : Here p l e R s m args below meth c Z own nm bs ml rt n0 T h k n) {C : String} {i sz : Nat} (hd : decode bs pc = .ok (.new i, 3)) (w : (Jvm.Cond.classLink own i C).before a0 Z = true) (wi : (Jvm.Cond.instantiable C sz).before a0 Z = true) (wz : (Jvm.Cond.initialized C).before a0 Z = true) (hc : k + 1 ≤ R.cells) (hl : n + sz ≤ R.slots) (hp : pc + 3 = pc') (r : ∀ T' h' b, Here p l e R s m args below meth c Z own nm bs ml rt n0 T' h' (k + 1) (n + sz) → b = h.size → n0 ≤ b → Ext h h' → Exa Z h' b C → (∀ {O f d : String} {ty : FieldType}, Laid Z a0 C O f d → parseFieldDescriptor d = some ty → Fld Z h' b O f d (defaultValue ty)) → Run p e below F T' (mkF m pc' ls (.ref b :: st))) : Run p e below F T (mkF m pc ls st) := by
  obtain ⟨⟨hx, hby, hml, hZ, hown, hnm, hret, hlk⟩, hs0, eT, locs, S, N⟩ := X
  subst hp
  obtain ⟨T', h', X', e', E, A, D, -, st'⟩ := newO S hx hZ hown w wi wz eT (g := mkF m pc ls st) rfl (hb hby hd) hc hl
  exact Run.of (fun t q => st' t q) (r T' h' h.size ⟨⟨hx, hby, hml, hZ, hown, hnm, hret, hlk⟩, Nat.le_trans hs0 E.1, e', _, X', N⟩ rfl hs0 E A D)
theorem r_getfield (X : Here p l e R s m args below meth c Z own nm bs ml rt n0 T h k n) {R0 f d : String} {i : Nat} {a : Addr} {v : Value} (hd : decode bs pc = .ok (.getfield i, 3)) (w : (Jvm.Cond.fieldLink own i R0 f d).before a0 Z = true) (Ff : Fld Z h a R0 f d v) (hp : pc + 3 = pc') (r : ∀ T', Here p l e R s m args below meth c Z own nm bs ml rt n0 T' h k n → Run p e below F T' (mkF m pc' ls (v :: st))) : Run p e below F T (mkF m pc ls (.ref a :: st)) := by
  obtain ⟨⟨hx, hby, hml, hZ, hown, hnm, hret, hlk⟩, hs0, eT, locs, S, N⟩ := X
  subst hp
  obtain ⟨T', X', e', st'⟩ := getF S hx hZ hown (host := "") (Or.inl w) Via.refl eT Ff (g := mkF m pc ls (.ref a :: st)) rfl rfl (hb hby hd)
  exact Run.of (fun t q => st' t q) (r T' ⟨⟨hx, hby, hml, hZ, hown, hnm, hret, hlk⟩, hs0, e', _, X', N⟩)
theorem r_putfield (X : Here p l e R s m args below meth c Z own nm bs ml rt n0 T h k n) {R0 f d C : String} {i kk : Nat} {a : Addr} {v old : Value} {ty : FieldType} (hd : decode bs pc = .ok (.putfield i, 3)) (w : (Jvm.Cond.fieldLink own i R0 f d).before a0 Z = true) (Ff : Fld Z h a R0 f d old) (E : Exa Z h a C) (L : (Jvm.Cond.lays C R0 f d).before a0 Z = true ∨ ((Jvm.Cond.laysFinal C R0 f d).before a0 Z = true ∧ own = R0 ∧ nm = "<init>")) (wi : (Jvm.Cond.instantiable C kk).before a0 Z = true) (hty : parseFieldDescriptor d = some ty) (hn : narrow ty v = v) (hf : fits ty v = true) (ge : n0 ≤ a) (hp : pc + 3 = pc') (r : ∀ T' h', Here p l e R s m args below meth c Z own nm bs ml rt n0 T' h' k n → Wr h h' a (Jvm.RoadKit.slotOf Z R0 f d) v → Run p e below F T' (mkF m pc' ls st)) : Run p e below F T (mkF m pc ls (v :: .ref a :: st)) := by
  obtain ⟨⟨hx, hby, hml, hZ, hown, hnm, hret, hlk⟩, hs0, eT, locs, S, N⟩ := X
  subst hp
  obtain ⟨T', h', X', e', W, st'⟩ := putF S hx hZ hown (host := "") (Or.inl w) Via.refl eT Ff E (L.imp id fun q => ⟨q.1, q.2.1, hnm.trans q.2.2⟩) wi hty hn hf (g := mkF m pc ls (v :: .ref a :: st)) rfl rfl (hb hby hd)
  refine Run.of (fun t q => st' t q) (r T' h' ⟨⟨hx, hby, hml, hZ, hown, hnm, hret, hlk⟩, ?_, e', _, X', Fr.snoc X' N ge⟩ W)
  rw [W.size]; exact hs0
theorem r_initObject (X : Here p l e R s m args below meth c Z own nm bs ml rt n0 T h k n) {i : Nat} {a : Addr} (hd : decode bs pc = .ok (.invokespecial i, 3)) (w1 : (Jvm.Cond.methodLink own i Lib.objectInit).before a0 Z = true) (w2 : (Jvm.Cond.instanceMethod Lib.objectInit).before a0 Z = true) (w3 : (Jvm.Cond.code Lib.objectInit ⟨#[0xb1]⟩ 1 none).before a0 Z = true) (hsz : ls.size = ml) (hf : 1 ≤ R.frames) {W : Nat} (hW : (st.map fun v => v.category).sum = W) (hl : W + 12 ≤ R.locals) (hp : pc + 3 = pc') (r : ∀ T', Here p l e R s m args below meth c Z own nm bs ml rt n0 T' h k n → Run p e below F T' (mkF m pc' ls st)) : Run p e below F T (mkF m pc ls (.ref a :: st)) := by
  obtain ⟨⟨hx, hby, hml, hZ, hown, hnm, hret, hlk⟩, hs0, eT, locs, S, N⟩ := X
  subst hp
  obtain ⟨T', X', e', st'⟩ := initO S hx hZ hown w1 w2 w3 eT (g := mkF m pc ls (.ref a :: st)) rfl (by rw [hml]; exact hsz) rfl (hb hby hd) hf (W := W) (by show 2 * 0 + _ ≤ _; rw [hW]; omega) hl
  exact Run.of (fun t q => st' t q) (r T' ⟨⟨hx, hby, hml, hZ, hown, hnm, hret, hlk⟩, hs0, e', _, X', N⟩)
theorem r_callS (X : Here p l e R s m args below meth c Z own nm bs ml rt n0 T h k n) {y : MethodName} {i : Nat} {bs' : ByteArray} {ml' : Nat} {rt' : Option FieldType} {rm : Room} {Q' : Option Value → Heap → Prop} {ps : List FieldType} {rr : Option FieldType} {argsL rest : List Value} {W : Nat} (hd : decode bs pc = .ok (.invokestatic i, 3)) (C : Con l Z y bs' ml' rt' rm argsL.toArray h n0 rm.cells rm.slots Q') (w1 : (Jvm.Cond.methodLink own i y).before a0 Z = true) (w2 : (Jvm.Cond.static y).before a0 Z = true) (w3 : (Jvm.Cond.initialized y.cls).before a0 Z = true) (w4 : (Jvm.Cond.code y bs' ml' rt').before a0 Z = true) (hy : y.cls ≠ "java/lang/invoke/MethodHandle" ∧ y.cls ≠ "java/lang/invoke/VarHandle") (hst : st = argsL.reverse ++ rest) (hsz : ls.size = ml) (hpd : parseMethodDescriptor y.desc = some ⟨ps, rr⟩) (hlen : argsL.length = ps.length) (hW : (rest.map fun v => v.category).sum = W) (hf : rm.frames + 1 ≤ R.frames) (hl : W + (ml' + 11) + rm.locals ≤ R.locals) (hc : k + rm.cells ≤ R.cells) (hs : n + rm.slots ≤ R.slots) (hp : pc + 3 = pc') (r : ∀ v T' h', Here p l e R s m args below meth c Z own nm bs ml rt n0 T' h' (k + rm.cells) (n + rm.slots) → Q' v h' → Run p e below F T' (mkF m pc' ls (v.toList ++ rest))) : Run p e below F T (mkF m pc ls st) := by
  obtain ⟨⟨hx, hby, hml, hZ, hown, hnm, hret, hlk⟩, hs0, eT, locs, S, N⟩ := X
  subst hp hst
  obtain ⟨v, _, B, -, X', ⟨L, hQ, l1, l2, l3⟩, st'⟩ := Jvm.LawKit.callS S hx (y := y) hown (mvT hZ w1) (mvT hZ w2) (mvT hZ w3) (mvT hZ w4) hy (backOf (W := W) (Q := fun v hh L => Q' v hh ∧ n0 ≤ hh.size ∧ Fr n0 L) (C []) hZ w4 w3 hf hl) (g := mkF m pc ls (argsL.reverse ++ rest)) rfl (by rw [hml]; exact hsz) (argsL := argsL) (rest := rest) (lenOf hpd hlen) rfl (by show 2 * 0 + _ ≤ _; rw [hW]; omega) (hb hby hd) (fun _ _ => ⟨rfl, eT, hc, hs⟩)
  obtain ⟨hQ, hs1, hF⟩ := hQ
  have X'' : Here p l e R s m args below meth c Z own nm bs ml rt n0 B.U B.U.heap (k + rm.cells) (n + rm.slots) := ⟨⟨hx, hby, hml, hZ, hown, hnm, hret, hlk⟩, hs1, rfl, B.locs, by rw [l2, l3] at X'; exact X', by rw [l1]; exact Fr.app N hF⟩
  exact Run.of (fun t q => st' t q) (r v B.U B.U.heap X'' hQ)
theorem r_init (X : Here p l e R s m args below meth c Z own nm bs ml rt n0 T h k n) {y : MethodName} {i : Nat} {bs' : ByteArray} {ml' : Nat} {rm : Room} {Q' : Option Value → Heap → Prop} {ps : List FieldType} {rr : Option FieldType} {argsL rest : List Value} {W : Nat} {a : Addr} (hd : decode bs pc = .ok (.invokespecial i, 3)) (C : Con l Z y bs' ml' none rm (.ref a :: argsL).toArray h n0 rm.cells rm.slots Q') (hy1 : y.name = "<init>") (w1 : (Jvm.Cond.methodLink own i y).before a0 Z = true) (w2 : (Jvm.Cond.instanceMethod y).before a0 Z = true) (w3 : (Jvm.Cond.initialized y.cls).before a0 Z = true) (w4 : (Jvm.Cond.code y bs' ml' none).before a0 Z = true) (hy : y.cls ≠ "java/lang/invoke/MethodHandle" ∧ y.cls ≠ "java/lang/invoke/VarHandle") (hst : st = argsL.reverse ++ .ref a :: rest) (hsz : ls.size = ml) (hpd : parseMethodDescriptor y.desc = some ⟨ps, rr⟩) (hlen : argsL.length = ps.length) (hW : (rest.map fun v => v.category).sum = W) (hf : rm.frames + 1 ≤ R.frames) (hl : W + (ml' + 11) + rm.locals ≤ R.locals) (hc : k + rm.cells ≤ R.cells) (hs : n + rm.slots ≤ R.slots) (hp : pc + 3 = pc') (r : ∀ v T' h', Here p l e R s m args below meth c Z own nm bs ml rt n0 T' h' (k + rm.cells) (n + rm.slots) → Q' v h' → Run p e below F T' (mkF m pc' ls (v.toList ++ rest))) : Run p e below F T (mkF m pc ls st) := by
  obtain ⟨⟨hx, hby, hml, hZ, hown, hnm, hret, hlk⟩, hs0, eT, locs, S, N⟩ := X
  subst hp hst
  obtain ⟨v, _, B, -, X', ⟨L, hQ, l1, l2, l3⟩, st'⟩ := S.specialBack hx (y := y) hy1 hown (mvT hZ w1) (mvT hZ w2) (mvT hZ w4) hy (backOf (W := W) (Q := fun v hh L => Q' v hh ∧ n0 ≤ hh.size ∧ Fr n0 L) (C []) hZ w4 w3 hf hl) (g := mkF m pc ls (argsL.reverse ++ .ref a :: rest)) rfl (by rw [hml]; exact hsz) (Steps.refl _) (a := a) (argsL := argsL) (rest := rest) (lenOf hpd hlen) rfl (by show 2 * 0 + _ ≤ _; rw [hW]; omega) (hb hby hd) (fun _ _ => ⟨rfl, eT, hc, hs⟩)
  obtain ⟨hQ, hs1, hF⟩ := hQ
  have X'' : Here p l e R s m args below meth c Z own nm bs ml rt n0 B.U B.U.heap (k + rm.cells) (n + rm.slots) := ⟨⟨hx, hby, hml, hZ, hown, hnm, hret, hlk⟩, hs1, rfl, B.locs, by rw [l2, l3] at X'; exact X', by rw [l1]; exact Fr.app N hF⟩
  exact Run.of (fun t q => st'.trans q) (r v B.U B.U.heap X'' hQ)
theorem r_callV (X : Here p l e R s m args below meth c Z own nm bs ml rt n0 T h k n) {y : MethodName} {i : Nat} {bs' : ByteArray} {ml' : Nat} {rt' : Option FieldType} {rm : Room} {Q' : Option Value → Heap → Prop} {ps : List FieldType} {rr : Option FieldType} {argsL rest : List Value} {W : Nat} {C0 : String} {a : Addr} (hd : decode bs pc = .ok (.invokevirtual i, 3)) (C : Con l Z y bs' ml' rt' rm (.ref a :: argsL).toArray h n0 rm.cells rm.slots Q') (E : Exa Z h a C0) (w1 : (Jvm.Cond.methodLink own i y).before a0 Z = true) (w2 : (Jvm.Cond.declares y).before a0 Z = true) (w5 : (Jvm.Cond.selects C0 y y).before a0 Z = true) (w6 : (Jvm.Cond.instanceMethod y).before a0 Z = true) (w3 : (Jvm.Cond.initialized y.cls).before a0 Z = true) (w4 : (Jvm.Cond.code y bs' ml' rt').before a0 Z = true) (hy : y.cls ≠ "java/lang/invoke/MethodHandle" ∧ y.cls ≠ "java/lang/invoke/VarHandle") (hst : st = argsL.reverse ++ .ref a :: rest) (hsz : ls.size = ml) (hpd : parseMethodDescriptor y.desc = some ⟨ps, rr⟩) (hlen : argsL.length = ps.length) (hW : (rest.map fun v => v.category).sum = W) (hf : rm.frames + 1 ≤ R.frames) (hl : W + (ml' + 11) + rm.locals ≤ R.locals) (hc : k + rm.cells ≤ R.cells) (hs : n + rm.slots ≤ R.slots) (hp : pc + 3 = pc') (r : ∀ v T' h', Here p l e R s m args below meth c Z own nm bs ml rt n0 T' h' (k + rm.cells) (n + rm.slots) → Q' v h' → Run p e below F T' (mkF m pc' ls (v.toList ++ rest))) : Run p e below F T (mkF m pc ls st) := by
  obtain ⟨⟨hx, hby, hml, hZ, hown, hnm, hret, hlk⟩, hs0, eT, locs, S, N⟩ := X
  subst hp hst
  obtain ⟨cq, kq, qa, qb, qc⟩ := isOf hZ eT E
  obtain ⟨v, _, B, -, X', ⟨L, hQ, l1, l2, l3⟩, st'⟩ := S.virtualBack hx (y := y) (z := y) hown (mvT hZ w1) (mvT hZ w2) (notFace_of_selects (args := #[]) (mvT hZ w5)) (mvT hZ w5) (mvT hZ w6) hy (backOf (W := W) (Q := fun v hh L => Q' v hh ∧ n0 ≤ hh.size ∧ Fr n0 L) (C []) hZ w4 w3 hf hl) qa qc (g := mkF m pc ls (argsL.reverse ++ .ref a :: rest)) rfl (by rw [hml]; exact hsz) (Steps.refl _) (argsL := argsL) (rest := rest) (lenOf hpd hlen) rfl (by show 2 * 0 + _ ≤ _; rw [hW]; omega) (hb hby hd) (fun _ _ => ⟨rfl, eT, hc, hs⟩)
  obtain ⟨hQ, hs1, hF⟩ := hQ
  have X'' : Here p l e R s m args below meth c Z own nm bs ml rt n0 B.U B.U.heap (k + rm.cells) (n + rm.slots) := ⟨⟨hx, hby, hml, hZ, hown, hnm, hret, hlk⟩, hs1, rfl, B.locs, by rw [l2, l3] at X'; exact X', by rw [l1]; exact Fr.app N hF⟩
  exact Run.of (fun t q => st'.trans q) (r v B.U B.U.heap X'' hQ)
end Own
/-- an int by its bits' number -/
theorem n_bits (x : Int32) : x.toInt = ((x.toBitVec.toNat : Int) + 2147483648) % 4294967296 - 2147483648 := by
  have e : x.toInt = x.toBitVec.toInt := rfl
  have hb := x.toBitVec.isLt
  rw [e, BitVec.toInt_eq_toNat_cond]
  split <;> omega
theorem n_i2b (x : Int32) : (x.toInt8.toInt32).toInt = (x.toInt + 128) % 256 - 128 := by
  rw [Int8.toInt_toInt32, Int32.toInt_toInt8, Int.bmod_def]; omega
theorem n_i2c (x : Int32) : (x.toUInt32.toUInt16.toUInt32.toInt32).toInt = x.toInt % 65536 := by
  have h : (x.toUInt32.toUInt16.toUInt32.toInt32).toBitVec.toNat = x.toBitVec.toNat % 65536 := by
    show ((x.toBitVec.setWidth 16).setWidth 32).toNat = _
    rw [BitVec.toNat_setWidth, BitVec.toNat_setWidth]; omega
  have h1 := n_bits (x.toUInt32.toUInt16.toUInt32.toInt32)
  have h2 := n_bits x
  have h3 := x.toBitVec.isLt
  omega
theorem n_narC (x : Int32) : nar .char x.toUInt32.toUInt16.toUInt32.toInt32 = x.toUInt32.toUInt16.toUInt32.toInt32 := by
  apply Int32.toInt_inj.mp
  show (Int32.toUInt32 _).toUInt16.toUInt32.toInt32.toInt = _
  rw [n_i2c, n_i2c]; omega
theorem n_narB (x : Int32) : nar .byte x.toInt8.toInt32 = x.toInt8.toInt32 := by
  apply Int32.toInt_inj.mp
  show (Int32.toInt8 _).toInt32.toInt = _
  rw [n_i2b, n_i2b]; omega
theorem n_add {x y : Int32} {a b : Int} (hx : x.toInt = a) (hy : y.toInt = b) (h1 : -2147483648 ≤ a + b) (h2 : a + b ≤ 2147483647) : (x + y).toInt = a + b := by
  subst hx hy; exact Jvm.Kit.i32_add (by omega) (by omega)
theorem n_sub {x y : Int32} {a b : Int} (hx : x.toInt = a) (hy : y.toInt = b) (h1 : -2147483648 ≤ a - b) (h2 : a - b ≤ 2147483647) : (x - y).toInt = a - b := by
  subst hx hy; exact Jvm.Kit.i32_sub (by omega) (by omega)
theorem n_nat {x : Int32} {n : Nat} (h : x.toInt = n) : x = Int32.ofNat n := by
  have a := x.toInt_lt
  exact Int32.toInt_inj.mp (by rw [h, Int32.toInt_ofNat_of_lt (by omega)])
theorem n_max (x : Int32) : 0 ≤ (x &&& (2147483647 : Int32)).toInt := by
  have : (x &&& (2147483647 : Int32)).toInt = x.toInt % 2 ^ 31 := Jvm.Kit.i32_mask x 2147483647 (k := 31) (by decide) (by decide)
  omega
theorem n_bitsL (x : Int64) : x.toInt = ((x.toBitVec.toNat : Int) + 9223372036854775808) % 18446744073709551616 - 9223372036854775808 := by
  have e : x.toInt = x.toBitVec.toInt := rfl
  have hb := x.toBitVec.isLt
  rw [e, BitVec.toInt_eq_toNat_cond]
  split <;> omega
theorem n_ushr (x y : Int32) (s : Nat) (hs : ((y &&& 31).toUInt32).toNat = s) (h1 : s < 32) : ((XT.ushr x y).toBitVec.toNat : Nat) = x.toBitVec.toNat / 2 ^ s := by
  show ((x.toUInt32 >>> (y &&& 31).toUInt32).toInt32).toBitVec.toNat = _
  simp only [UInt32.toBitVec_toInt32, UInt32.toBitVec_shiftRight, Int32.toBitVec_toUInt32]
  simp [BitVec.toNat_ushiftRight, Nat.shiftRight_eq_div_pow]
  have h2 : y.toBitVec.toNat &&& 31 = s := hs
  rw [h2, Nat.mod_eq_of_lt h1]
theorem own_and15 (x : Int32) : (x &&& (15 : Int32)).toInt = x.toInt % 16 := Jvm.Kit.i32_mask x 15 (k := 4) (by decide) (by decide)
theorem own_m2 (c : Int32) : (c &&& (-2 : Int32)).toInt = 16 ↔ (c.toInt = 16 ∨ c.toInt = 17) := by
  rw [show (16 : Int) = (16 : Int32).toInt from rfl, show (17 : Int) = (17 : Int32).toInt from rfl, Int32.toInt_inj, Int32.toInt_inj, Int32.toInt_inj]
  constructor
  · intro h
    have e : (c &&& (-2 : Int32)) ||| (c &&& (1 : Int32)) = c := by
      apply Int32.toBitVec_inj.mp
      simp only [Int32.toBitVec_or, Int32.toBitVec_and]
      rw [← BitVec.and_or_distrib_left]
      show c.toBitVec &&& (BitVec.allOnes 32) = _
      rw [BitVec.and_allOnes]
    rw [h] at e
    rcases and_one c with q | q
    · rw [q] at e; left; rw [← e]; rfl
    · rw [q] at e; right; rw [← e]; rfl
  · rintro (rfl | rfl) <;> rfl
theorem pn_java_lang_Record : plainName "java/lang/Record" = true := by first | (simp [plainName, overriddenIn]; done) | decide +kernel
theorem d_init_Record_0 : decode jdk_30_method_1_code 0 = .ok (.aload_n 0, 1) := by decide +kernel
theorem d_init_Record_1 : decode jdk_30_method_1_code 1 = .ok (.invokespecial 1, 3) := by decide +kernel
theorem d_init_Record_4 : decode jdk_30_method_1_code 4 = .ok (.return_, 1) := by decide +kernel
theorem pn_com_example_saltwire_saltwire_session_BadMsgNotification : plainName "com/example/saltwire/saltwire/session/BadMsgNotification" = true := by first | (simp [plainName, overriddenIn]; done) | decide +kernel
theorem d_init_BadMsgNotification_0 : decode prog_73_method_1_code 0 = .ok (.aload_n 0, 1) := by decide +kernel
theorem pd_init_Record : parseMethodDescriptor "()V" = some ⟨[], none⟩ := by decide +kernel
theorem d_init_BadMsgNotification_1 : decode prog_73_method_1_code 1 = .ok (.invokespecial 1, 3) := by decide +kernel
theorem d_init_BadMsgNotification_4 : decode prog_73_method_1_code 4 = .ok (.aload_n 0, 1) := by decide +kernel
theorem d_init_BadMsgNotification_5 : decode prog_73_method_1_code 5 = .ok (.lload_n 1, 1) := by decide +kernel
theorem d_init_BadMsgNotification_6 : decode prog_73_method_1_code 6 = .ok (.putfield 7, 3) := by decide +kernel
theorem d_init_BadMsgNotification_9 : decode prog_73_method_1_code 9 = .ok (.aload_n 0, 1) := by decide +kernel
theorem d_init_BadMsgNotification_10 : decode prog_73_method_1_code 10 = .ok (.iload_n 3, 1) := by decide +kernel
theorem d_init_BadMsgNotification_11 : decode prog_73_method_1_code 11 = .ok (.putfield 13, 3) := by decide +kernel
theorem d_init_BadMsgNotification_14 : decode prog_73_method_1_code 14 = .ok (.aload_n 0, 1) := by decide +kernel
theorem d_init_BadMsgNotification_15 : decode prog_73_method_1_code 15 = .ok (.iload 4, 2) := by decide +kernel
theorem d_init_BadMsgNotification_17 : decode prog_73_method_1_code 17 = .ok (.putfield 17, 3) := by decide +kernel
theorem d_init_BadMsgNotification_20 : decode prog_73_method_1_code 20 = .ok (.return_, 1) := by decide +kernel
theorem d_isAboutTime_0 : decode prog_73_method_2_code 0 = .ok (.aload_n 0, 1) := by decide +kernel
theorem d_isAboutTime_1 : decode prog_73_method_2_code 1 = .ok (.getfield 17, 3) := by decide +kernel
theorem d_isAboutTime_4 : decode prog_73_method_2_code 4 = .ok (.bipush 16, 2) := by decide +kernel
theorem d_isAboutTime_6 : decode prog_73_method_2_code 6 = .ok (.if_icmp .eq 12, 3) := by decide +kernel
theorem d_isAboutTime_18 : decode prog_73_method_2_code 18 = .ok (.iconst 1, 1) := by decide +kernel
theorem d_isAboutTime_19 : decode prog_73_method_2_code 19 = .ok (.goto 4, 3) := by decide +kernel
theorem d_isAboutTime_23 : decode prog_73_method_2_code 23 = .ok (.ireturn, 1) := by decide +kernel
theorem d_isAboutTime_9 : decode prog_73_method_2_code 9 = .ok (.aload_n 0, 1) := by decide +kernel
theorem d_isAboutTime_10 : decode prog_73_method_2_code 10 = .ok (.getfield 17, 3) := by decide +kernel
theorem d_isAboutTime_13 : decode prog_73_method_2_code 13 = .ok (.bipush 17, 2) := by decide +kernel
theorem d_isAboutTime_15 : decode prog_73_method_2_code 15 = .ok (.if_icmp .ne 7, 3) := by decide +kernel
theorem d_isAboutTime_22 : decode prog_73_method_2_code 22 = .ok (.iconst 0, 1) := by decide +kernel
theorem pn_com_example_saltwire_saltwire_session_BadMsgNotificationIsAboutTimePinLaw : plainName "com/example/saltwire/saltwire/session/BadMsgNotificationIsAboutTimePinLaw" = true := by first | (simp [plainName, overriddenIn]; done) | decide +kernel
theorem pd_init_BadMsgNotification : parseMethodDescriptor "(JII)V" = some ⟨[.long, .int, .int], none⟩ := by decide +kernel
theorem pd_isAboutTime : parseMethodDescriptor "()Z" = some ⟨[], (some .boolean)⟩ := by decide +kernel
set_option maxRecDepth 65536 in
set_option maxHeartbeats 40000000 in
theorem con_rec (l : Launch) (Z : State) (a0 : Array Value) (hw : ∀ d ∈ tables_1, d.before a0 Z = true) (a1 : Addr) (h0 : Heap) (n0 : Nat) (Z0 : n0 ≤ h0.size)  : Con l Z (⟨"java/lang/Record", "<init>", "()V"⟩ : MethodName) jdk_30_method_1_code 1 none ({ frames := 1, cells := 0, slots := 0, locals := 12 } : Room) #[(.ref a1)] h0 n0 0 0 (fun v h => v = none ∧ h0 = h) := by
  refine Con.of_body (ls := #[.val (.ref a1)]) pn_java_lang_Record (fun m => by first | (simp [entryFrame, mkF, argsToLocals, Value.category]; done) | rfl) Z0 (fun p e s m below meth c T (X : Here p l e ({ frames := 1, cells := 0, slots := 0, locals := 12 } : Room) s m #[(.ref a1)] below meth c Z "java/lang/Record" "<init>" jdk_30_method_1_code 1 none n0 T h0 0 0) => ?_)
  refine r_aloadN X (pc' := 1) d_init_Record_0 rfl rfl ?_
  refine r_initObject X (pc' := 4) (W := 0) d_init_Record_1 (wd hw 12 rfl) (wd hw 13 rfl) (wd hw 14 rfl) rfl (by decide) rfl (by decide) rfl (fun T1 X2 => ?_)
  show Run p e below _ _ (mkF m 4 #[.val (.ref a1)] [])
  exact r_ret X2 d_init_Record_4 ⟨rfl, rfl⟩ (by decide) (by decide)
set_option maxRecDepth 65536 in
set_option maxHeartbeats 40000000 in
theorem con_init (l : Launch) (Z : State) (a0 : Array Value) (hw : ∀ d ∈ tables_1, d.before a0 Z = true) (a1 : Addr) (q1 : Int64) (q2 : Int32) (q3 : Int32) (u_badMsgId : Value) (u_badMsgSeqno : Value) (u_errorCode : Value) (h0 : Heap) (n0 : Nat) (Z0 : n0 ≤ h0.size) (E_a1 : Exa Z h0 a1 "com/example/saltwire/saltwire/session/BadMsgNotification") (F_badMsgId : Fld Z h0 a1 "com/example/saltwire/saltwire/session/BadMsgNotification" "badMsgId" "J" u_badMsgId) (F_badMsgSeqno : Fld Z h0 a1 "com/example/saltwire/saltwire/session/BadMsgNotification" "badMsgSeqno" "I" u_badMsgSeqno) (F_errorCode : Fld Z h0 a1 "com/example/saltwire/saltwire/session/BadMsgNotification" "errorCode" "I" u_errorCode) (g_a1 : n0 ≤ a1) : Con l Z (⟨"com/example/saltwire/saltwire/session/BadMsgNotification", "<init>", "(JII)V"⟩ : MethodName) prog_73_method_1_code 5 none ({ frames := 2, cells := 0, slots := 0, locals := 24 } : Room) #[(.ref a1), (.long q1), (.int q2), (.int q3)] h0 n0 0 0 (fun v h => v = none ∧ Keep h0 h [a1] ∧ Fld Z h a1 "com/example/saltwire/saltwire/session/BadMsgNotification" "badMsgId" "J" (.long q1) ∧ Fld Z h a1 "com/example/saltwire/saltwire/session/BadMsgNotification" "badMsgSeqno" "I" (.int q2) ∧ Fld Z h a1 "com/example/saltwire/saltwire/session/BadMsgNotification" "errorCode" "I" (.int q3)) := by
  refine Con.of_body (ls := #[.val (.ref a1), .val (.long q1), .second, .val (.int q2), .val (.int q3)]) pn_com_example_saltwire_saltwire_session_BadMsgNotification (fun m => by first | (simp [entryFrame, mkF, argsToLocals, Value.category]; done) | rfl) Z0 (fun p e s m below meth c T (X : Here p l e ({ frames := 2, cells := 0, slots := 0, locals := 24 } : Room) s m #[(.ref a1), (.long q1), (.int q2), (.int q3)] below meth c Z "com/example/saltwire/saltwire/session/BadMsgNotification" "<init>" prog_73_method_1_code 5 none n0 T h0 0 0) => ?_)
  refine r_aloadN X (pc' := 1) d_init_BadMsgNotification_0 rfl rfl ?_
  refine r_init X (pc' := 4) d_init_BadMsgNotification_1 (con_rec l Z a0 hw a1 h0 n0 Z0) rfl (wd hw 7 rfl) (wd hw 8 rfl) (wd hw 10 rfl) (wd hw 11 rfl) (by decide) (argsL := []) (rest := []) (W := 0) rfl rfl pd_init_Record rfl rfl (by decide) (by decide) (by decide) (by decide) rfl (fun v3 T4 h5 X6 QQ7 => ?_)
  obtain ⟨rfl, rfl⟩ := QQ7
  show Run p e below _ _ (mkF m 4 #[.val (.ref a1), .val (.long q1), .second, .val (.int q2), .val (.int q3)] [])
  have K0 := Keep.refl h0 [a1]
  refine r_aloadN X6 (pc' := 5) d_init_BadMsgNotification_4 rfl rfl ?_
  refine r_lloadN X6 (pc' := 6) d_init_BadMsgNotification_5 rfl rfl ?_
  refine r_putfield X6 (pc' := 9) (ty := .long) d_init_BadMsgNotification_6 (wd hw 15 rfl) F_badMsgId E_a1 (Or.inr ⟨(wd hw 16 rfl), rfl, rfl⟩) (wd hw 2 rfl) (by decide) rfl rfl g_a1 rfl (fun T8 h9 X10 W11 => ?_)
  have f12 := E_a1.wr W11
  have f13 := F_badMsgId.same W11
  have f14 := F_badMsgSeqno.other W11 (Or.inr (slot_ne (C := "com/example/saltwire/saltwire/session/BadMsgNotification") (Or.inr (wd hw 18 rfl)) (Or.inr (wd hw 16 rfl)) (by decide) (t := .int) (t' := .long) (by decide) (by decide)))
  have f15 := F_errorCode.other W11 (Or.inr (slot_ne (C := "com/example/saltwire/saltwire/session/BadMsgNotification") (Or.inr (wd hw 20 rfl)) (Or.inr (wd hw 16 rfl)) (by decide) (t := .int) (t' := .long) (by decide) (by decide)))
  have K16 := K0.wr W11 (Or.inl (List.mem_of_getElem? (i := 0) rfl))
  refine r_aloadN X10 (pc' := 10) d_init_BadMsgNotification_9 rfl rfl ?_
  refine r_iloadN X10 (pc' := 11) d_init_BadMsgNotification_10 rfl rfl ?_
  refine r_putfield X10 (pc' := 14) (ty := .int) d_init_BadMsgNotification_11 (wd hw 17 rfl) f14 f12 (Or.inr ⟨(wd hw 18 rfl), rfl, rfl⟩) (wd hw 2 rfl) (by decide) rfl rfl g_a1 rfl (fun T17 h18 X19 W20 => ?_)
  have f21 := f12.wr W20
  have f22 := f13.other W20 (Or.inr (slot_ne (C := "com/example/saltwire/saltwire/session/BadMsgNotification") (Or.inr (wd hw 16 rfl)) (Or.inr (wd hw 18 rfl)) (by decide) (t := .long) (t' := .int) (by decide) (by decide)))
  have f23 := f14.same W20
  have f24 := f15.other W20 (Or.inr (slot_ne (C := "com/example/saltwire/saltwire/session/BadMsgNotification") (Or.inr (wd hw 20 rfl)) (Or.inr (wd hw 18 rfl)) (by decide) (t := .int) (t' := .int) (by decide) (by decide)))
  have K25 := K16.wr W20 (Or.inl (List.mem_of_getElem? (i := 0) rfl))
  refine r_aloadN X19 (pc' := 15) d_init_BadMsgNotification_14 rfl rfl ?_
  refine r_iload X19 (pc' := 17) d_init_BadMsgNotification_15 rfl rfl ?_
  refine r_putfield X19 (pc' := 20) (ty := .int) d_init_BadMsgNotification_17 (wd hw 19 rfl) f24 f21 (Or.inr ⟨(wd hw 20 rfl), rfl, rfl⟩) (wd hw 2 rfl) (by decide) rfl rfl g_a1 rfl (fun T26 h27 X28 W29 => ?_)
  have f30 := f21.wr W29
  have f31 := f22.other W29 (Or.inr (slot_ne (C := "com/example/saltwire/saltwire/session/BadMsgNotification") (Or.inr (wd hw 16 rfl)) (Or.inr (wd hw 20 rfl)) (by decide) (t := .long) (t' := .int) (by decide) (by decide)))
  have f32 := f23.other W29 (Or.inr (slot_ne (C := "com/example/saltwire/saltwire/session/BadMsgNotification") (Or.inr (wd hw 18 rfl)) (Or.inr (wd hw 20 rfl)) (by decide) (t := .int) (t' := .int) (by decide) (by decide)))
  have f33 := f24.same W29
  have K34 := K25.wr W29 (Or.inl (List.mem_of_getElem? (i := 0) rfl))
  exact r_ret X28 d_init_BadMsgNotification_20 ⟨rfl, K34, f31, f32, f33⟩ (by decide) (by decide)
set_option maxRecDepth 65536 in
set_option maxHeartbeats 40000000 in
theorem con_f (l : Launch) (Z : State) (a0 : Array Value) (hw : ∀ d ∈ tables_1, d.before a0 Z = true) (a1 : Addr) (q1 : Int32) (h0 : Heap) (n0 : Nat) (Z0 : n0 ≤ h0.size) (F1 : Fld Z h0 a1 "com/example/saltwire/saltwire/session/BadMsgNotification" "errorCode" "I" (.int q1)) : Con l Z (⟨"com/example/saltwire/saltwire/session/BadMsgNotification", "isAboutTime", "()Z"⟩ : MethodName) prog_73_method_2_code 1 (some .boolean) ({ frames := 0, cells := 0, slots := 0, locals := 0 } : Room) #[(.ref a1)] h0 n0 0 0 (fun v h => (∃ z : Int32, v = some (.int z) ∧ (z.toInt = 1 ∧ (q1.toInt = 16 ∨ q1.toInt = 17) ∨ z.toInt = 0 ∧ ¬ (q1.toInt = 16 ∨ q1.toInt = 17))) ∧ h0 = h) := by
  refine Con.of_body (ls := #[.val (.ref a1)]) pn_com_example_saltwire_saltwire_session_BadMsgNotification (fun m => by first | (simp [entryFrame, mkF, argsToLocals, Value.category]; done) | rfl) Z0 (fun p e s m below meth c T (X : Here p l e ({ frames := 0, cells := 0, slots := 0, locals := 0 } : Room) s m #[(.ref a1)] below meth c Z "com/example/saltwire/saltwire/session/BadMsgNotification" "isAboutTime" prog_73_method_2_code 1 (some .boolean) n0 T h0 0 0) => ?_)
  refine r_aloadN X (pc' := 1) d_isAboutTime_0 rfl rfl ?_
  refine r_getfield X (pc' := 4) d_isAboutTime_1 (wd hw 19 rfl) F1 rfl (fun T35 X36 => ?_)
  refine r_bipush X36 (pc' := 6) (v := (16 : Int32)) d_isAboutTime_4 rfl rfl ?_
  refine r_icmp X36 (pc' := 18) (pc2 := 9) d_isAboutTime_6 (by decide) (by decide) rfl (a := q1.toInt) (b := 16) rfl rfl (fun (cq37 : q1.toInt = 16) => ?_) (fun (cq37 : ¬ (q1.toInt = 16)) => ?_)
  · refine r_iconst X36 (pc' := 19) (v := (1 : Int32)) d_isAboutTime_18 rfl rfl ?_
    refine r_goto X36 (pc' := 23) d_isAboutTime_19 (by decide) (by decide) ?_
    exact r_retN X36 (by simp) d_isAboutTime_23 (z := (1 : Int32)) (w := (1 : Int32)) rfl ⟨⟨_, rfl, Or.inl ⟨rfl, by omega⟩⟩, rfl⟩ (by decide) (by decide)
  · refine r_aloadN X36 (pc' := 10) d_isAboutTime_9 rfl rfl ?_
    refine r_getfield X36 (pc' := 13) d_isAboutTime_10 (wd hw 19 rfl) F1 rfl (fun T38 X39 => ?_)
    refine r_bipush X39 (pc' := 15) (v := (17 : Int32)) d_isAboutTime_13 rfl rfl ?_
    refine r_icmp X39 (pc' := 22) (pc2 := 18) d_isAboutTime_15 (by decide) (by decide) rfl (a := q1.toInt) (b := 17) rfl rfl (fun (cq40 : ¬ q1.toInt = 17) => ?_) (fun (cq40 : ¬ (¬ q1.toInt = 17)) => ?_)
    · refine r_iconst X39 (pc' := 23) (v := (0 : Int32)) d_isAboutTime_22 rfl rfl ?_
      exact r_retN X39 (by simp) d_isAboutTime_23 (z := (0 : Int32)) (w := (0 : Int32)) rfl ⟨⟨_, rfl, Or.inr ⟨rfl, by omega⟩⟩, rfl⟩ (by decide) (by decide)
    · refine r_iconst X39 (pc' := 19) (v := (1 : Int32)) d_isAboutTime_18 rfl rfl ?_
      refine r_goto X39 (pc' := 23) d_isAboutTime_19 (by decide) (by decide) ?_
      exact r_retN X39 (by simp) d_isAboutTime_23 (z := (1 : Int32)) (w := (1 : Int32)) rfl ⟨⟨_, rfl, Or.inl ⟨rfl, by omega⟩⟩, rfl⟩ (by decide) (by decide)
set_option maxRecDepth 65536 in
set_option maxHeartbeats 40000000 in
theorem con_law (l : Launch) (Z : State) (a0 : Array Value) (hw : ∀ d ∈ tables_1, d.before a0 Z = true) (p1 : Int64) (p2 p3 p4 : Int32) (h0 : Heap) (n0 : Nat) (Z0 : n0 ≤ h0.size)  : Con l Z x code maxLocals ret room_1 #[(.long p1), (.int p2), (.int p3), (.int p4)] h0 n0 16 128 (fun v _ => v = some (.int 1)) := by
  refine Con.of_body (ls := #[.val (.long p1), .second, .val (.int p2), .val (.int p3), .val (.int p4), .unset, .unset, .unset, .unset, .unset]) pn_com_example_saltwire_saltwire_session_BadMsgNotificationIsAboutTimePinLaw (fun m => by first | (simp [entryFrame, mkF, argsToLocals, Value.category, maxLocals]; done) | rfl) Z0 (fun p e s m below meth c T (X : Here p l e room_1 s m #[(.long p1), (.int p2), (.int p3), (.int p4)] below meth c Z "com/example/saltwire/saltwire/session/BadMsgNotificationIsAboutTimePinLaw" "law" code 10 (some .boolean) n0 T h0 0 0) => ?_)
  refine r_bipush X (pc' := 2) (v := (9 : Int32)) at_0 rfl rfl ?_
  refine r_newarray X (pc' := 4) (N := 9) at_2 (wd hw 0 rfl) rfl rfl (by decide) (by decide) (by decide) rfl (fun T41 h42 b43 X44 ebb43 geb43 E45 A46 => ?_)
  refine r_dup X44 (pc' := 5) at_4 rfl rfl ?_
  refine r_iconst X44 (pc' := 6) (v := (0 : Int32)) at_5 rfl rfl ?_
  refine r_bipush X44 (pc' := 8) (v := (16 : Int32)) at_6 rfl rfl ?_
  refine r_iastore X44 (pc' := 9) (i := 0) at_8 A46 rfl (by decide) geb43 rfl rfl (fun T47 h48 X49 W50 A51 => ?_)
  refine r_dup X49 (pc' := 10) at_9 rfl rfl ?_
  refine r_iconst X49 (pc' := 11) (v := (1 : Int32)) at_10 rfl rfl ?_
  refine r_bipush X49 (pc' := 13) (v := (17 : Int32)) at_11 rfl rfl ?_
  refine r_iastore X49 (pc' := 14) (i := 1) at_13 A51 rfl (by decide) geb43 rfl rfl (fun T52 h53 X54 W55 A56 => ?_)
  refine r_dup X54 (pc' := 15) at_14 rfl rfl ?_
  refine r_iconst X54 (pc' := 16) (v := (2 : Int32)) at_15 rfl rfl ?_
  refine r_bipush X54 (pc' := 18) (v := (18 : Int32)) at_16 rfl rfl ?_
  refine r_iastore X54 (pc' := 19) (i := 2) at_18 A56 rfl (by decide) geb43 rfl rfl (fun T57 h58 X59 W60 A61 => ?_)
  refine r_dup X59 (pc' := 20) at_19 rfl rfl ?_
  refine r_iconst X59 (pc' := 21) (v := (3 : Int32)) at_20 rfl rfl ?_
  refine r_bipush X59 (pc' := 23) (v := (15 : Int32)) at_21 rfl rfl ?_
  refine r_iastore X59 (pc' := 24) (i := 3) at_23 A61 rfl (by decide) geb43 rfl rfl (fun T62 h63 X64 W65 A66 => ?_)
  refine r_dup X64 (pc' := 25) at_24 rfl rfl ?_
  refine r_iconst X64 (pc' := 26) (v := (4 : Int32)) at_25 rfl rfl ?_
  refine r_bipush X64 (pc' := 28) (v := (32 : Int32)) at_26 rfl rfl ?_
  refine r_iastore X64 (pc' := 29) (i := 4) at_28 A66 rfl (by decide) geb43 rfl rfl (fun T67 h68 X69 W70 A71 => ?_)
  refine r_dup X69 (pc' := 30) at_29 rfl rfl ?_
  refine r_iconst X69 (pc' := 31) (v := (5 : Int32)) at_30 rfl rfl ?_
  refine r_bipush X69 (pc' := 33) (v := (33 : Int32)) at_31 rfl rfl ?_
  refine r_iastore X69 (pc' := 34) (i := 5) at_33 A71 rfl (by decide) geb43 rfl rfl (fun T72 h73 X74 W75 A76 => ?_)
  refine r_dup X74 (pc' := 35) at_34 rfl rfl ?_
  refine r_bipush X74 (pc' := 37) (v := (6 : Int32)) at_35 rfl rfl ?_
  refine r_bipush X74 (pc' := 39) (v := (34 : Int32)) at_37 rfl rfl ?_
  refine r_iastore X74 (pc' := 40) (i := 6) at_39 A76 rfl (by decide) geb43 rfl rfl (fun T77 h78 X79 W80 A81 => ?_)
  refine r_dup X79 (pc' := 41) at_40 rfl rfl ?_
  refine r_bipush X79 (pc' := 43) (v := (7 : Int32)) at_41 rfl rfl ?_
  refine r_bipush X79 (pc' := 45) (v := (35 : Int32)) at_43 rfl rfl ?_
  refine r_iastore X79 (pc' := 46) (i := 7) at_45 A81 rfl (by decide) geb43 rfl rfl (fun T82 h83 X84 W85 A86 => ?_)
  refine r_dup X84 (pc' := 47) at_46 rfl rfl ?_
  refine r_bipush X84 (pc' := 49) (v := (8 : Int32)) at_47 rfl rfl ?_
  refine r_bipush X84 (pc' := 51) (v := (64 : Int32)) at_49 rfl rfl ?_
  refine r_iastore X84 (pc' := 52) (i := 8) at_51 A86 rfl (by decide) geb43 rfl rfl (fun T87 h88 X89 W90 A91 => ?_)
  obtain ⟨kk, hkk⟩ : ∃ z, p4 &&& (15 : Int32) = z := ⟨_, rfl⟩
  have ki : kk.toInt = p4.toInt % 16 := by rw [← hkk]; exact own_and15 _
  obtain ⟨i1, h1⟩ : ∃ n : Nat, kk.toInt = n := ⟨kk.toInt.toNat, by omega⟩
  refine r_astore X89 (pc' := 54) (ls' := #[.val (.long p1), .second, .val (.int p2), .val (.int p3), .val (.int p4), .val (.ref b43), .unset, .unset, .unset, .unset]) at_52 rfl rfl ?_
  refine r_iload X89 (pc' := 56) at_54 rfl rfl ?_
  refine r_bipush X89 (pc' := 58) (v := (15 : Int32)) at_56 rfl rfl ?_
  refine r_iand X89 (pc' := 59) (z := kk) at_58 hkk rfl ?_
  refine r_istore X89 (pc' := 61) (ls' := #[.val (.long p1), .second, .val (.int p2), .val (.int p3), .val (.int p4), .val (.ref b43), .val (.int kk), .unset, .unset, .unset]) at_59 rfl rfl ?_
  have J : ∀ (cc : Int32), Run p e below (Fnl s n0 16 128 (fun v _ => v = some (.int 1))) T87 (mkF m 77 #[.val (.long p1), .second, .val (.int p2), .val (.int p3), .val (.int p4), .val (.ref b43), .val (.int kk), .unset, .unset, .unset] [(.int cc)]) := by
    intro cc
    refine r_istore X89 (pc' := 79) (ls' := #[.val (.long p1), .second, .val (.int p2), .val (.int p3), .val (.int p4), .val (.ref b43), .val (.int kk), .val (.int cc), .unset, .unset]) at_77 rfl rfl ?_
    refine r_new X89 (pc' := 82) at_79 (wd hw 1 rfl) (wd hw 2 rfl) (wd hw 3 rfl) (by decide) (by decide) rfl (fun T92 h93 b94 X95 ebb94 geb94 E96 A97 D98 => ?_)
    have ne99 : b43 ≠ b94 := Nat.ne_of_lt (by rw [ebb94]; exact A91.lt)
    have f100 := A91.ext E96
    have f101 := D98 (O := "com/example/saltwire/saltwire/session/BadMsgNotification") (f := "badMsgId") (Or.inr (wd hw 16 rfl)) (ty := .long) (by decide)
    have f102 := D98 (O := "com/example/saltwire/saltwire/session/BadMsgNotification") (f := "badMsgSeqno") (Or.inr (wd hw 18 rfl)) (ty := .int) (by decide)
    have f103 := D98 (O := "com/example/saltwire/saltwire/session/BadMsgNotification") (f := "errorCode") (Or.inr (wd hw 20 rfl)) (ty := .int) (by decide)
    refine r_dup X95 (pc' := 83) at_82 rfl rfl ?_
    refine r_lloadN X95 (pc' := 84) at_83 rfl rfl ?_
    refine r_iloadN X95 (pc' := 85) at_84 rfl rfl ?_
    refine r_iload X95 (pc' := 87) at_85 rfl rfl ?_
    refine r_init X95 (pc' := 90) at_87 (con_init l Z a0 hw b94 (p1) (p2) (cc) (.long (0 : Int64)) (.int (0 : Int32)) (.int (0 : Int32)) h93 n0 X95.sz A97 f101 f102 f103 geb94) rfl (wd hw 4 rfl) (wd hw 5 rfl) (wd hw 3 rfl) (wd hw 6 rfl) (by decide) (argsL := [(.long p1), (.int p2), (.int cc)]) (rest := [(.ref b94)]) (W := 1) rfl rfl pd_init_BadMsgNotification rfl rfl (by decide) (by decide) (by decide) (by decide) rfl (fun v104 T105 h106 X107 QQ108 => ?_)
    obtain ⟨rfl, K109, f110, f111, f112⟩ := QQ108
    show Run p e below _ _ (mkF m 90 #[.val (.long p1), .second, .val (.int p2), .val (.int p3), .val (.int p4), .val (.ref b43), .val (.int kk), .val (.int cc), .unset, .unset] [(.ref b94)])
    have f113 := f100.keep K109 (ninS ne99 nin0)
    have f114 := A97.keep K109
    refine r_astore X107 (pc' := 92) (ls' := #[.val (.long p1), .second, .val (.int p2), .val (.int p3), .val (.int p4), .val (.ref b43), .val (.int kk), .val (.int cc), .val (.ref b94), .unset]) at_90 rfl rfl ?_
    refine r_iload X107 (pc' := 94) at_92 rfl rfl ?_
    refine r_bipush X107 (pc' := 96) (v := (-2 : Int32)) at_94 rfl rfl ?_
    refine r_iand X107 (pc' := 97) (z := (cc &&& (-2 : Int32))) at_96 rfl rfl ?_
    refine r_bipush X107 (pc' := 99) (v := (16 : Int32)) at_97 rfl rfl ?_
    have gm := own_m2 cc
    have J2 : ∀ (b : Int32) (hb : b.toInt = 1 ∧ (cc &&& (-2 : Int32)).toInt = 16 ∨ b.toInt = 0 ∧ ¬ (cc &&& (-2 : Int32)).toInt = 16), Run p e below (Fnl s n0 16 128 (fun v _ => v = some (.int 1))) T105 (mkF m 107 #[.val (.long p1), .second, .val (.int p2), .val (.int p3), .val (.int p4), .val (.ref b43), .val (.int kk), .val (.int cc), .val (.ref b94), .unset] [(.int b)]) := by
      intro b hb
      refine r_istore X107 (pc' := 109) (ls' := #[.val (.long p1), .second, .val (.int p2), .val (.int p3), .val (.int p4), .val (.ref b43), .val (.int kk), .val (.int cc), .val (.ref b94), .val (.int b)]) at_107 rfl rfl ?_
      refine r_aload X107 (pc' := 111) at_109 rfl rfl ?_
      refine r_callV X107 (pc' := 114) at_111 (con_f l Z a0 hw b94 cc h106 n0 X107.sz f112) f114 (wd hw 21 rfl) (wd hw 22 rfl) (wd hw 24 rfl) (wd hw 23 rfl) (wd hw 3 rfl) (wd hw 25 rfl) (by decide) (argsL := []) (rest := []) (W := 0) rfl rfl pd_isAboutTime rfl rfl (by decide) (by decide) (by decide) (by decide) rfl (fun v115 T116 h117 X118 QQ119 => ?_)
      obtain ⟨⟨z, rfl, hz⟩, rfl⟩ := QQ119
      show Run p e below _ _ (mkF m 114 #[.val (.long p1), .second, .val (.int p2), .val (.int p3), .val (.int p4), .val (.ref b43), .val (.int kk), .val (.int cc), .val (.ref b94), .val (.int b)] [(.int z)])
      refine r_iload X118 (pc' := 116) at_114 rfl rfl ?_
      refine r_icmpN X118 (pc2 := 119) at_116 (by decide) rfl (a := z.toInt) (b := b.toInt) rfl rfl (show ¬ (¬ z.toInt = b.toInt) from (by omega)) ?_
      refine r_iconst X118 (pc' := 120) (v := (1 : Int32)) at_119 rfl rfl ?_
      refine r_goto X118 (pc' := 124) at_120 (by decide) (by decide) ?_
      exact r_retN X118 (by simp) at_124 (z := (1 : Int32)) (w := (1 : Int32)) rfl rfl (by decide) (by decide)
    refine r_icmp X107 (pc' := 106) (pc2 := 102) at_99 (by decide) (by decide) rfl (a := (cc &&& (-2 : Int32)).toInt) (b := 16) rfl rfl (fun (cq120 : ¬ (cc &&& (-2 : Int32)).toInt = 16) => ?_) (fun (cq120 : ¬ (¬ (cc &&& (-2 : Int32)).toInt = 16)) => ?_)
    · refine r_iconst X107 (pc' := 107) (v := (0 : Int32)) at_106 rfl rfl ?_
      exact J2 (0 : Int32) (Or.inr ⟨rfl, by omega⟩)
    · refine r_iconst X107 (pc' := 103) (v := (1 : Int32)) at_102 rfl rfl ?_
      refine r_goto X107 (pc' := 107) at_103 (by decide) (by decide) ?_
      exact J2 (1 : Int32) (Or.inl ⟨rfl, by omega⟩)
  refine r_iload X89 (pc' := 63) at_61 rfl rfl ?_
  refine r_bipush X89 (pc' := 65) (v := (9 : Int32)) at_63 rfl rfl ?_
  refine r_icmp X89 (pc' := 76) (pc2 := 68) at_65 (by decide) (by decide) rfl (a := kk.toInt) (b := 9) rfl rfl (fun (cq121 : 9 ≤ kk.toInt) => ?_) (fun (cq121 : ¬ (9 ≤ kk.toInt)) => ?_)
  · refine r_iloadN X89 (pc' := 77) at_76 rfl rfl ?_
    exact J p3
  · refine r_aload X89 (pc' := 70) at_68 rfl rfl ?_
    refine r_iload X89 (pc' := 72) at_70 rfl rfl ?_
    refine r_iaload X89 (pc' := 73) (i := i1) (v := ((upd (upd (upd (upd (upd (upd (upd (upd (upd (fun _ => 0) 0 (16 : Int32)) 1 (17 : Int32)) 2 (18 : Int32)) 3 (15 : Int32)) 4 (32 : Int32)) 5 (33 : Int32)) 6 (34 : Int32)) 7 (35 : Int32)) 8 (64 : Int32)) i1)) at_72 A91 h1 (by omega) rfl rfl ?_
    refine r_goto X89 (pc' := 77) at_73 (by decide) (by decide) ?_
    exact J ((upd (upd (upd (upd (upd (upd (upd (upd (upd (fun _ => 0) 0 (16 : Int32)) 1 (17 : Int32)) 2 (18 : Int32)) 3 (15 : Int32)) 4 (32 : Int32)) 5 (33 : Int32)) 6 (34 : Int32)) 7 (35 : Int32)) 8 (64 : Int32)) i1)
set_option maxRecDepth 65536 in
set_option maxHeartbeats 40000000 in
theorem comes_1 {Post : Tables → Env → Array Value → State → Outcome → State → Prop} (hpost : ∀ tb e args s v u, (limb_1_1.after args s (.returned v) u = true ∧ limb_1_2.after args s (.returned v) u = true ∧ True) → FrameEnd s (.returned v) u (Jvm.fieldLocs frame_1_writes args s ++ Jvm.arrayLocs frame_1_arrays args s ++ Jvm.staticLocs frame_1_statics s) 16 128 → Post tb e args s (.returned v) u) :
    ArmFor flags0 classFile x code maxLocals ret World_1 tables_1 room_1 Calls_1 rest_1 Pre_1 Post := by
  intro l hfl _ _ p e ha hc hk s m args below hf hA hF happ hP
  obtain ⟨hcalls, hrest, hpre⟩ := hP
  obtain ⟨-, -, -, hnamed, -, -, -, hat⟩ := (Spec.applies_iff hf).mp happ
  obtain ⟨hg, hn⟩ := and_e (Cond.before_iff.mp (show (Jvm.Cond.and given_1 narrow_1).before args s = true from hpre))
  obtain ⟨gc, gr0⟩ := and_e hg
  obtain ⟨gv0, gr1⟩ := and_e gr0
  obtain ⟨gv1, gr2⟩ := and_e gr1
  obtain ⟨gv2, gr3⟩ := and_e gr2
  obtain ⟨w0, w1, w2, w3, rfl⟩ : ∃ w0 w1 w2 w3 : Value, args = #[w0, w1, w2, w3] := by
    have hs : args.size = 4 := by simpa [Cond.value, given_1] using gc
    obtain ⟨L⟩ := args
    match L, hs with
    | [w0, w1, w2, w3], _ => exact ⟨w0, w1, w2, w3, rfl⟩
  have hw := fun d (hd : d ∈ tables_1) => atoms_spec (ws := Jvm.Cond.code x code maxLocals ret :: tables_1) hat d (List.mem_cons_of_mem _ hd)
  obtain ⟨i0, ei0⟩ := isL_v gv0
  obtain rfl : w0 = (.long i0) := Option.some.inj ei0
  obtain ⟨i1, ei1⟩ := is_v gv1
  obtain rfl : w1 = (.int i1) := Option.some.inj ei1
  obtain ⟨i2, ei2⟩ := is_v gv2
  obtain rfl : w2 = (.int i2) := Option.some.inj ei2
  obtain ⟨i3, ei3⟩ := is_v gr3
  obtain rfl : w3 = (.int i3) := Option.some.inj ei3
  obtain ⟨n, o, h1, h2, h3, _, L, rfl, ⟨rfl, -, N⟩, hq⟩ := con_law l s _ hw i0 i1 i2 i3 s.heap s.heap.size (Nat.le_refl _) tables_1 p e ha hc hk s m _ below hf ((Spec.applies_iff_loose hf).mp happ).1 ⟨rfl, State.Warmed39.refl s, rfl⟩ trivial
  refine ⟨n, _, h1, h2, h3, hpost _ _ _ _ _ _ ⟨Cond.after_iff.mpr rfl, Cond.after_iff.mpr (eq_i res_at (Term.int_eval (1)) rfl), trivial⟩ ⟨hq.1, hq.2.1, (hq.2.2.sift fun y hy => Or.inr (N y hy)).mono (by decide) (by decide)⟩⟩
theorem main_1_1 : Claimed_1_1 := comes_1 fun _ _ _ _ _ _ h hF => ⟨h.1, hF⟩
theorem main_1_2 : Claimed_1_2 := comes_1 fun _ _ _ _ _ _ h hF => ⟨h.2.1, hF⟩
end Jvm.Pilot.@@N@@
namespace Jvm.Pilot.@@N@@
open Jvm Jvm.ClassFile Sem Op Lib Jvm.Free Jvm.Stand Jvm.Pilot.@@N@@.Jvm.D
/-! MADE BY PROGRAM (witnessworld.py) out of the Statement's table words and the real class files: 11 classes; the members and pool entries that the words name. The judged class is class 1, her method 1. -/
namespace start1
open Jvm.ClassFile
def u (s : String) : CpInfo := .utf8 (stringToUtf16 s)
/-- a pool by its gaps: so many unusable entries, then the entry; so many at the end -/
def gap : Nat → List CpInfo → List CpInfo
  | 0, r => r
  | n + 1, r => .unusable :: gap n r
def poolList (es : List (Nat × CpInfo)) (last : Nat) : List CpInfo := es.foldr (fun e r => gap e.1 (e.2 :: r)) (gap last [])
def pool (es : List (Nat × CpInfo)) (last : Nat) : Array CpInfo := ⟨poolList es last⟩
def fileOf (pool : Array CpInfo) (this : Nat) (attrs : Array Attribute := #[]) (ms : Array MethodInfo := #[]) (fl : Nat := 33) (sup : Nat := 0) (ifs : Array Nat := #[]) (fds : Array FieldInfo := #[]) : ClassFile where
  minorVersion := 0
  majorVersion := 65
  constantPool := pool
  accessFlags := fl
  thisClass := this
  superClass := sup
  interfaces := ifs
  fields := fds
  methods := ms
  attributes := attrs
def plain (name : String) (sup : Option ClassId) : Class where
  name := name
  kind := .ordinary
  loader := none
  accessFlags := 33
  super := sup
  interfaces := #[]
  cf := none
  fields := #[]
  methods := #[]
  instanceTypes := #[]
  staticTypes := #[]
  resolved := #[]
  callSites := []
  init := .initialized
  statics := none
  mirror := none

def pool0 : Array CpInfo := pool [(5, u "<init>"), (0, u "()V"), (1, .class_ 10), (1, u "java/lang/Object")] 113

def k0c0 : Code := { maxStack := 0, maxLocals := 1, code := object_method_1_code, exceptionTable := #[], attributes := #[] }
def k0m0 : Method := { name := "<init>", desc := "()V", sig := { parameters := [], returnType := none }, accessFlags := 1, code := some k0c0 }
/-- java/lang/Object -/
def k0 : Class := { plain "java/lang/Object" none with
  accessFlags := 33
  interfaces := #[]
  cf := some (fileOf pool0 8 #[] #[{ accessFlags := 1, nameIndex := 5, descriptorIndex := 6, attributes := #[] }] 33 0 #[] #[])
  fields := #[]
  methods := #[k0m0]
  instanceTypes := #[]
  staticTypes := #[]
  resolved := Array.replicate 124 none
  statics := none }

def pool1 : Array CpInfo := pool [(2, .class_ 4), (1, u "java/lang/Object"), (0, u "<init>"), (0, u "()V"), (0, .class_ 8), (0, u "com/example/saltwire/saltwire/session/BadMsgNotification"), (0, .methodref 7 10), (0, .nameAndType 5 11), (0, u "(JII)V"), (0, .methodref 7 13), (0, .nameAndType 14 15), (0, u "isAboutTime"), (0, u "()Z"), (0, .class_ 17), (0, u "com/example/saltwire/saltwire/session/BadMsgNotificationIsAboutTimePinLaw"), (2, u "law"), (0, u "(JIII)Z")] 5

def k1m0 : Method := { name := "<init>", desc := "()V", sig := { parameters := [], returnType := none }, accessFlags := 2, code := none }
def k1c1 : Code := { maxStack := 6, maxLocals := 10, code := code, exceptionTable := #[], attributes := #[] }
def k1m1 : Method := { name := "law", desc := "(JIII)Z", sig := { parameters := [.long, .int, .int, .int], returnType := some .boolean }, accessFlags := 9, code := some k1c1 }
/-- com/example/saltwire/saltwire/session/BadMsgNotificationIsAboutTimePinLaw -/
def k1 : Class := { plain "com/example/saltwire/saltwire/session/BadMsgNotificationIsAboutTimePinLaw" (some 0) with
  accessFlags := 49
  interfaces := #[]
  cf := some (fileOf pool1 16 #[] #[{ accessFlags := 2, nameIndex := 5, descriptorIndex := 6, attributes := #[] }, { accessFlags := 9, nameIndex := 20, descriptorIndex := 21, attributes := #[] }] 49 2 #[] #[])
  fields := #[]
  methods := #[k1m0, k1m1]
  instanceTypes := #[]
  staticTypes := #[]
  resolved := Array.replicate 27 none
  statics := none }

def pool2 : Array CpInfo := pool [(1, .methodref 2 3), (0, .class_ 4), (0, .nameAndType 5 6), (0, u "java/lang/Object"), (0, u "<init>"), (0, u "()V"), (0, .class_ 8), (0, u "java/lang/Record")] 13

def k2c0 : Code := { maxStack := 1, maxLocals := 1, code := jdk_30_method_1_code, exceptionTable := #[], attributes := #[] }
def k2m0 : Method := { name := "<init>", desc := "()V", sig := { parameters := [], returnType := none }, accessFlags := 4, code := some k2c0 }
/-- java/lang/Record -/
def k2 : Class := { plain "java/lang/Record" (some 0) with
  accessFlags := 1057
  interfaces := #[]
  cf := some (fileOf pool2 7 #[] #[{ accessFlags := 4, nameIndex := 5, descriptorIndex := 6, attributes := #[] }] 1057 2 #[] #[])
  fields := #[]
  methods := #[k2m0]
  instanceTypes := #[]
  staticTypes := #[]
  resolved := Array.replicate 22 none
  statics := none }

def pool3 : Array CpInfo := pool [(8, .class_ 10), (1, u "com/example/saltwire/saltwire/tl/TlObject"), (28, .class_ 40), (0, u "java/lang/Object")] 8

/-- com/example/saltwire/saltwire/tl/TlObject -/
def k3 : Class := { plain "com/example/saltwire/saltwire/tl/TlObject" (some 0) with
  accessFlags := 1537
  interfaces := #[]
  cf := some (fileOf pool3 8 #[] #[] 1537 39 #[] #[])
  fields := #[]
  methods := #[]
  instanceTypes := #[]
  staticTypes := #[]
  resolved := Array.replicate 49 none
  statics := none }

def pool4 : Array CpInfo := pool [(1, .methodref 2 3), (0, .class_ 4), (0, .nameAndType 5 6), (0, u "java/lang/Record"), (0, u "<init>"), (0, u "()V"), (0, .fieldref 8 9), (0, .class_ 10), (0, .nameAndType 11 12), (0, u "com/example/saltwire/saltwire/session/BadMsgNotification"), (0, u "badMsgId"), (0, u "J"), (0, .fieldref 8 14), (0, .nameAndType 15 16), (0, u "badMsgSeqno"), (0, u "I"), (0, .fieldref 8 18), (0, .nameAndType 19 16), (0, u "errorCode"), (29, u "(JII)V"), (12, .class_ 63), (0, u "com/example/saltwire/saltwire/tl/TlObject"), (0, u "CONSTRUCTOR"), (1, u "MSG_ID_TOO_LOW"), (1, u "MSG_ID_TOO_HIGH"), (1, u "MSG_ID_PARITY"), (1, u "SEQNO_TOO_LOW"), (1, u "SEQNO_TOO_HIGH"), (1, u "SEQNO_EVEN_EXPECTED"), (1, u "SEQNO_ODD_EXPECTED"), (1, u "INVALID_CONTAINER"), (4, u "isAboutTime"), (0, u "()Z")] 32

def k4c0 : Code := { maxStack := 3, maxLocals := 5, code := prog_73_method_1_code, exceptionTable := #[], attributes := #[] }
def k4m0 : Method := { name := "<init>", desc := "(JII)V", sig := { parameters := [.long, .int, .int], returnType := none }, accessFlags := 1, code := some k4c0 }
def k4c1 : Code := { maxStack := 2, maxLocals := 1, code := prog_73_method_2_code, exceptionTable := #[], attributes := #[] }
def k4m1 : Method := { name := "isAboutTime", desc := "()Z", sig := { parameters := [], returnType := some .boolean }, accessFlags := 1, code := some k4c1 }
/-- com/example/saltwire/saltwire/session/BadMsgNotification -/
def k4 : Class := { plain "com/example/saltwire/saltwire/session/BadMsgNotification" (some 2) with
  accessFlags := 49
  interfaces := #[3]
  cf := some (fileOf pool4 8 #[] #[{ accessFlags := 1, nameIndex := 5, descriptorIndex := 49, attributes := #[] }, { accessFlags := 1, nameIndex := 85, descriptorIndex := 86, attributes := #[] }] 49 2 #[62] #[{ accessFlags := 18, nameIndex := 11, descriptorIndex := 12, attributes := #[] }, { accessFlags := 18, nameIndex := 15, descriptorIndex := 16, attributes := #[] }, { accessFlags := 18, nameIndex := 19, descriptorIndex := 16, attributes := #[] }, { accessFlags := 25, nameIndex := 64, descriptorIndex := 16, attributes := #[] }, { accessFlags := 25, nameIndex := 66, descriptorIndex := 16, attributes := #[] }, { accessFlags := 25, nameIndex := 68, descriptorIndex := 16, attributes := #[] }, { accessFlags := 25, nameIndex := 70, descriptorIndex := 16, attributes := #[] }, { accessFlags := 25, nameIndex := 72, descriptorIndex := 16, attributes := #[] }, { accessFlags := 25, nameIndex := 74, descriptorIndex := 16, attributes := #[] }, { accessFlags := 25, nameIndex := 76, descriptorIndex := 16, attributes := #[] }, { accessFlags := 25, nameIndex := 78, descriptorIndex := 16, attributes := #[] }, { accessFlags := 25, nameIndex := 80, descriptorIndex := 16, attributes := #[] }])
  fields := #[{ name := "badMsgId", type := .long, accessFlags := 18, slot := 0, constantValue := 0 }, { name := "badMsgSeqno", type := .int, accessFlags := 18, slot := 1, constantValue := 0 }, { name := "errorCode", type := .int, accessFlags := 18, slot := 2, constantValue := 0 }, { name := "CONSTRUCTOR", type := .int, accessFlags := 25, slot := 0, constantValue := 0 }, { name := "MSG_ID_TOO_LOW", type := .int, accessFlags := 25, slot := 1, constantValue := 0 }, { name := "MSG_ID_TOO_HIGH", type := .int, accessFlags := 25, slot := 2, constantValue := 0 }, { name := "MSG_ID_PARITY", type := .int, accessFlags := 25, slot := 3, constantValue := 0 }, { name := "SEQNO_TOO_LOW", type := .int, accessFlags := 25, slot := 4, constantValue := 0 }, { name := "SEQNO_TOO_HIGH", type := .int, accessFlags := 25, slot := 5, constantValue := 0 }, { name := "SEQNO_EVEN_EXPECTED", type := .int, accessFlags := 25, slot := 6, constantValue := 0 }, { name := "SEQNO_ODD_EXPECTED", type := .int, accessFlags := 25, slot := 7, constantValue := 0 }, { name := "INVALID_CONTAINER", type := .int, accessFlags := 25, slot := 8, constantValue := 0 }]
  methods := #[k4m0, k4m1]
  instanceTypes := #[.long, .int, .int]
  staticTypes := #[.int, .int, .int, .int, .int, .int, .int, .int, .int]
  resolved := Array.replicate 119 none
  statics := none }

def pool5 : Array CpInfo := pool [(1, u "java/lang/Cloneable"), (0, .class_ 1), (0, u "java/lang/Object"), (0, .class_ 3)] 3

/-- java/lang/Cloneable -/
def k5 : Class := { plain "java/lang/Cloneable" (some 0) with
  accessFlags := 1537
  interfaces := #[]
  cf := some (fileOf pool5 2 #[] #[] 1537 4 #[] #[])
  fields := #[]
  methods := #[]
  instanceTypes := #[]
  staticTypes := #[]
  resolved := Array.replicate 8 none
  statics := none }

def pool6 : Array CpInfo := pool [(1, u "java/io/Serializable"), (0, .class_ 1), (0, u "java/lang/Object"), (0, .class_ 3)] 3

/-- java/io/Serializable -/
def k6 : Class := { plain "java/io/Serializable" (some 0) with
  accessFlags := 1537
  interfaces := #[]
  cf := some (fileOf pool6 2 #[] #[] 1537 4 #[] #[])
  fields := #[]
  methods := #[]
  instanceTypes := #[]
  staticTypes := #[]
  resolved := Array.replicate 8 none
  statics := none }

/-- the primitive byte -/
def k7 : Class := { plain "byte" none with kind := .primitive 'B', accessFlags := 0x411 }
/-- [B -/
def k8 : Class := { plain "[B" (some 0) with kind := .array 7 .byte, interfaces := #[5, 6], accessFlags := 1041 }

/-- the primitive int -/
def k9 : Class := { plain "int" none with kind := .primitive 'I', accessFlags := 0x411 }
/-- [I -/
def k10 : Class := { plain "[I" (some 0) with kind := .array 9 .int, interfaces := #[5, 6], accessFlags := 1041 }

def heap : Heap := #[]
def classes : Array Class := #[k0, k1, k2, k3, k4, k5, k6, k7, k8, k9, k10]
def interned : List (Array UInt16 × Addr) := []
def slotsUsed : Nat := 0
def theMethod : MethodId := ⟨1, 1⟩
def args0 : Array Value := #[.long 5, .int 5, .int 5, .int 5]
def aboutOver (below : List Frame) : State where
  vm := { classes := classes, interned := interned.toArray }
  heap := heap
  slotsUsed := slotsUsed
  threads := #[{ frames := .invoking theMethod args0 :: below }]
def below0 : List Frame := [.native { method := ⟨0, 0⟩, args := #[] }]
def about1 : State := aboutOver below0
def p0 : Program := .bare "" "" ""
def e0 : Env := launch0.env 0 0 0
theorem w_frames : about1.frames = Frame.invoking theMethod args0 :: below0 := rfl
set_option maxRecDepth 65536 in
theorem w_args : argsFit about1.vm theMethod args0 = true := by decide +kernel
set_option maxRecDepth 65536 in
theorem w_heap : heapFits about1 = true := by decide +kernel
set_option maxRecDepth 65536 in
theorem w_runnable : about1.curStatus? = some .runnable := by decide +kernel
set_option maxRecDepth 65536 in
theorem w_alone : about1.alone = true := by decide +kernel
set_option maxRecDepth 65536 in
theorem w_named : about1.methodNamed? x = some theMethod := by decide +kernel
set_option maxRecDepth 65536 in
theorem w_hears : about1.hears theMethod below0 = true := by decide +kernel
set_option maxRecDepth 65536 in
theorem w_ripe : about1.ripe theMethod args0 below0 = true := by decide +kernel
theorem w_running : about1.status = .running := rfl
set_option maxRecDepth 65536 in
theorem w_room : about1.hasRoom e0.platform room_1 = true :=
  launch0.hasRoom_least _ room_1 (by decide +kernel) (by decide +kernel) (by decide +kernel) (by decide +kernel) (by decide +kernel) (by decide +kernel)
theorem allAtoms_all (ts : List Jvm.Cond) (a : Array Jvm.Value) (st : Jvm.State) : (allAtoms ts).before a st = ts.all (fun c => c.before a st) := by
  induction ts with
  | nil => rfl
  | cons c t ih =>
    show (Jvm.Cond.and c (allAtoms t)).before a st = _
    rw [Jvm.Cond.before_and, ih, List.all_cons]
def words1 : List Jvm.Cond := Jvm.Cond.code x code maxLocals ret :: tables_1
/-- a 'code' word, met by the world's own term for the bytes: nothing is compared byte by byte -/
theorem code_word {y : MethodName} {bytes : ByteArray} {mx : Nat} {rt : Option FieldType} {a : Array Value} {s : State} {m : MethodId} {meth : Method} {c : Code} (h1 : s.methodNamed? y = some m) (h2 : s.vm.method? m = some meth) (h3 : meth.code = some c) (h4 : c.code = bytes)
    (h5 : (c.maxLocals == mx && c.exceptionTable.isEmpty && decide (c.maxStack ≤ mostOperands) && decide (meth.sig.returnType = rt) && !meth.locks && decide (parseMethodDescriptor y.desc = some meth.sig)) = true) : (Jvm.Cond.code y bytes mx rt).before a s = true := by
  simp only [Bool.and_eq_true, beq_iff_eq, Bool.not_eq_true', decide_eq_true_eq] at h5
  obtain ⟨⟨⟨⟨⟨g1, g2⟩, g3⟩, g4⟩, g5⟩, g6⟩ := h5
  simp [Cond.before, Cond.holds, Cond.value, h1, h2, h3, h4, g1, g2, g3, g4, g5, g6]
def isCode : Jvm.Cond → Bool
  | .code _ _ _ _ => true
  | _ => false
theorem all_split {L : List Jvm.Cond} {P : Jvm.Cond → Bool} (h1 : L.all (fun c => isCode c || P c) = true) (h2 : ∀ c ∈ L.filter isCode, P c = true) : L.all P = true := by
  refine List.all_eq_true.mpr fun c hc => ?_
  have h := List.all_eq_true.mp h1 c hc
  rcases Bool.eq_false_or_eq_true (isCode c) with hi | hi
  · exact h2 c (List.mem_filter.mpr ⟨hc, hi⟩)
  · simpa [hi] using h
set_option maxRecDepth 65536 in
theorem w_c0 : (Jvm.Cond.code x code maxLocals ret).before args0 about1 = true := code_word (m := ⟨1, 1⟩) (meth := k1m1) (c := k1c1) (by decide +kernel) rfl rfl rfl (by decide +kernel)
set_option maxRecDepth 65536 in
theorem w_c1 : (Jvm.Cond.code ({ cls := "com/example/saltwire/saltwire/session/BadMsgNotification", name := "<init>", desc := "(JII)V" } : Jvm.MethodName) prog_73_method_1_code (5 : Nat) (Option.none : Option Jvm.ClassFile.FieldType)).before args0 about1 = true := code_word (m := ⟨4, 0⟩) (meth := k4m0) (c := k4c0) (by decide +kernel) rfl rfl rfl (by decide +kernel)
set_option maxRecDepth 65536 in
theorem w_c2 : (Jvm.Cond.code ({ cls := "java/lang/Record", name := "<init>", desc := "()V" } : Jvm.MethodName) jdk_30_method_1_code (1 : Nat) (Option.none : Option Jvm.ClassFile.FieldType)).before args0 about1 = true := code_word (m := ⟨2, 0⟩) (meth := k2m0) (c := k2c0) (by decide +kernel) rfl rfl rfl (by decide +kernel)
set_option maxRecDepth 65536 in
theorem w_c3 : (Jvm.Cond.code ({ cls := "java/lang/Object", name := "<init>", desc := "()V" } : Jvm.MethodName) object_method_1_code (1 : Nat) (Option.none : Option Jvm.ClassFile.FieldType)).before args0 about1 = true := code_word (m := ⟨0, 0⟩) (meth := k0m0) (c := k0c0) (by decide +kernel) rfl rfl rfl (by decide +kernel)
set_option maxRecDepth 65536 in
theorem w_c4 : (Jvm.Cond.code ({ cls := "com/example/saltwire/saltwire/session/BadMsgNotification", name := "isAboutTime", desc := "()Z" } : Jvm.MethodName) prog_73_method_2_code (1 : Nat) (Option.some Jvm.ClassFile.FieldType.boolean)).before args0 about1 = true := code_word (m := ⟨4, 1⟩) (meth := k4m1) (c := k4c1) (by decide +kernel) rfl rfl rfl (by decide +kernel)
def codes1 : List Jvm.Cond := [Jvm.Cond.code x code maxLocals ret, Jvm.Cond.code ({ cls := "com/example/saltwire/saltwire/session/BadMsgNotification", name := "<init>", desc := "(JII)V" } : Jvm.MethodName) prog_73_method_1_code (5 : Nat) (Option.none : Option Jvm.ClassFile.FieldType), Jvm.Cond.code ({ cls := "java/lang/Record", name := "<init>", desc := "()V" } : Jvm.MethodName) jdk_30_method_1_code (1 : Nat) (Option.none : Option Jvm.ClassFile.FieldType), Jvm.Cond.code ({ cls := "java/lang/Object", name := "<init>", desc := "()V" } : Jvm.MethodName) object_method_1_code (1 : Nat) (Option.none : Option Jvm.ClassFile.FieldType), Jvm.Cond.code ({ cls := "com/example/saltwire/saltwire/session/BadMsgNotification", name := "isAboutTime", desc := "()Z" } : Jvm.MethodName) prog_73_method_2_code (1 : Nat) (Option.some Jvm.ClassFile.FieldType.boolean)]
set_option maxRecDepth 65536 in
theorem codes_eq : words1.filter isCode = codes1 := rfl
theorem w_codes : ∀ c ∈ words1.filter isCode, c.before args0 about1 = true := by
  rw [codes_eq]
  intro c hc
  simp only [codes1, List.mem_cons, List.not_mem_nil, or_false] at hc
  rcases hc with rfl | rfl | rfl | rfl | rfl
  · exact w_c0
  · exact w_c1
  · exact w_c2
  · exact w_c3
  · exact w_c4
set_option maxRecDepth 65536 in
theorem w_t1 : (words1.take 24).all (fun c => isCode c || c.before args0 about1) = true := by decide +kernel
set_option maxRecDepth 65536 in
theorem w_t2 : (words1.drop 24).all (fun c => isCode c || c.before args0 about1) = true := by decide +kernel
theorem w_tables : (allAtoms (Jvm.Cond.code x code maxLocals ret :: tables_1)).before args0 about1 = true := by
  rw [allAtoms_all]
  show words1.all (fun c => c.before args0 about1) = true
  refine all_split ?_ w_codes
  rw [← List.take_append_drop 24 words1, List.all_append, w_t1, w_t2]
  rfl
set_option maxRecDepth 65536 in
theorem w_case : (Jvm.Cond.and given_1 narrow_1).before args0 about1 = true := by decide +kernel
theorem w_applies : (headSpec (Jvm.Cond.code x code maxLocals ret :: tables_1) room_1).applies x e0.platform about1 = true :=
  (Spec.applies_iff w_frames).mpr ⟨w_running, w_runnable, w_alone, w_named, w_hears, w_ripe, w_room, w_tables⟩
theorem atStart : AtStart classFile x code maxLocals ret World_1 tables_1 room_1 Calls_1 rest_1 Pre_1 launch0 p0 e0 about1 theMethod args0 below0 :=
  ⟨lists_1, trivial, launch0.admits_env _ _ _, launch0.least_env, fairChoices_fair.cas, fairChoices_fair.clock, w_frames, w_args, w_heap, w_applies, trivial, trivial, w_case⟩
end start1
theorem witness_1 : WitnessClaimed_1 := ⟨start1.p0, start1.e0, start1.about1, start1.theMethod, start1.args0, start1.below0, start1.atStart⟩
end Jvm.Pilot.@@N@@
