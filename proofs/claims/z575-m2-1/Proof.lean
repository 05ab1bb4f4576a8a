import JvmDerived
import JvmDerived.Pilot.@@N@@Statement
import JvmDerived.Pilot.@@N@@Code
set_option linter.unusedVariables false
set_option linter.unusedSimpArgs false
@@BLOCK:NumsL.lean.txt@@
namespace Jvm.Pilot.@@N@@
open Jvm Jvm.ClassFile Sem Op Lib Jvm.Free Jvm.Stand Jvm.LawKit Jvm.RoadKit Bundle Jvm.Pilot.@@N@@.Jvm.D
section Own
variable {p : Program} {l : Launch} {e : Env} {R : Room} {s : State} {m : MethodId} {args : Array Value} {below : List Frame} {meth : Method} {c : Code} {Z : State} {a0 : Array Value} {own nm : String} {bs : ByteArray} {ml : Nat} {rt : Option FieldType} {n0 kc ks : Nat} {Q : Option Value → Heap → Prop} {F : Outcome → State → Prop} {T : State} {h : Heap} {k n : Nat} {pc pc' pc2 : Nat} {ls ls' : Array Slot} {st : List Value}
/-- all that a walk knows where it stands -/
def Here (p : Program) (l : Launch) (e : Env) (R : Room) (s : State) (m : MethodId) (args : Array Value) (below : List Frame) (meth : Method) (c : Code) (Z : State) (own nm : String) (bs : ByteArray) (ml : Nat) (rt : Option FieldType) (n0 : Nat) (T : State) (h : Heap) (k n : Nat) : Prop :=
  (p.tables.exec = Jvm.exec ∧ c.code = bs ∧ c.maxLocals = ml ∧ Z.Warmed39 s.vm ∧ s.vm.findClass own = some m.cls ∧ meth.name = nm ∧ meth.sig.returnType = rt ∧ meth.locks = false) ∧ n0 ≤ h.size ∧ T.heap = h ∧ ∃ locs, Stand p l e R s m args below meth c T locs k n ∧ Fr n0 locs
/-- from here the method returns, as Q says -/
def Run (p : Program) (e : Env) (below : List Frame) (F : Outcome → State → Prop) (T : State) (g : JFrame) : Prop :=
  ∃ s₂ o, Steps p.tables e below (T.setTop g) s₂ ∧ s₂.status = .running ∧ Ended s₂ below o ∧ F o s₂
/-- what a body's end owes -/
def Fnl (s : State) (n0 kc ks : Nat) (Q : Option Value → Heap → Prop) (o : Outcome) (s₂ : State) : Prop := ∃ v L, o = .returned v ∧ (Q v s₂.heap ∧ n0 ≤ s₂.heap.size ∧ Fr n0 L) ∧ FrameEnd s o s₂ L kc ks
/-- a body's contract -/
def Con (l : Launch) (Z : State) (y : MethodName) (bs : ByteArray) (ml : Nat) (rt : Option FieldType) (rm : Room) (as : Array Value) (h0 : Heap) (n0 kc ks : Nat) (Q : Option Value → Heap → Prop) : Prop :=
  ∀ ws, MetFree l y (head1 (Jvm.Cond.code y bs ml rt :: ws) rm) (fun a U => a = as ∧ Z.Warmed39 U.vm ∧ U.heap = h0) (fun _ _ _ _ _ => True) (fun _ U o U' => ∃ v L, o = .returned v ∧ (Q v U'.heap ∧ n0 ≤ U'.heap.size ∧ Fr n0 L) ∧ FrameEnd U o U' L kc ks)
theorem Run.of {T' : State} {g g' : JFrame} (q : ∀ t, Steps p.tables e below (T'.setTop g') t → Steps p.tables e below (T.setTop g) t) (r : Run p e below F T' g') : Run p e below F T g := by
  obtain ⟨s₂, o, w, r⟩ := r; exact ⟨s₂, o, q _ w, r⟩
theorem Con.of_body {y : MethodName} {rm : Room} {as : Array Value} (hp : plainName y.cls = true) (hef : ∀ m, entryFrame m as ml = mkF m 0 ls []) (Z0 : n0 ≤ h.size)
    (body : ∀ p e s m below meth c T, Here p l e rm s m as below meth c Z y.cls y.name bs ml rt n0 T h 0 0 → Run p e below (Fnl s n0 kc ks Q) T (mkF m 0 ls [])) : Con l Z y bs ml rt rm as h n0 kc ks Q := by
  intro ws
  refine MetFree.of_bodySF (plainFor_of_name hp) hisR ?_
  intro p e s m args below meth c s₁ Bd hml0 hP hK
  obtain ⟨rfl, hZ, hh⟩ := hP
  have e0 : s₁.heap = h := by rw [← hh, Bd.state]; rfl
  obtain ⟨s₂, o, q, r⟩ := body p e s m below meth c s₁ ⟨⟨Bd.exec, Bd.bytes, hml0, hZ, findClass_of_methodNamed Bd.named, (name_of_methodNamed Bd.named Bd.method).1, Bd.returns, Bd.notSynchronized⟩, Z0, e0, [], Stand.of_body Bd, Fr.nil n0⟩
  exact ⟨s₂, o, castTop (hef m) q, r⟩
theorem Here.sz (X : Here p l e R s m args below meth c Z own nm bs ml rt n0 T h k n) : n0 ≤ h.size := X.2.1
/-- the k-th word of the sheet -/
theorem wd (hw : ∀ d ∈ tables_1, d.before a0 Z = true) (i : Nat) {d : Jvm.Cond} (q : tables_1[i]? = some d) : d.before a0 Z = true := hw _ (List.mem_of_getElem? q)
def cnd : ClassFile.Cond → Int → Int → Prop
  | .eq, x, y => x = y
  | .ne, x, y => ¬ x = y
  | .lt, x, y => x < y
  | .ge, x, y => y ≤ x
  | .gt, x, y => y < x
  | .le, x, y => x ≤ y
theorem cnd_iff (cd : ClassFile.Cond) (x y : Int32) : if_icmp.holds cd x y = true ↔ cnd cd x.toInt y.toInt := by
  cases cd <;> simp [if_icmp.holds, cnd, Int32.lt_iff_toInt_lt, Int32.le_iff_toInt_le, ← Int32.toInt_inj]
theorem r_aloadN (X : Here p l e R s m args below meth c Z own nm bs ml rt n0 T h k n) {i : Fin 4} {a : Addr} (hd : decode bs pc = .ok (.aload_n i, 1)) (hl : ls[i.val]? = some (.val (.ref a))) (hp : pc + 1 = pc') (r : Run p e below F T (mkF m pc' ls (.ref a :: st))) : Run p e below F T (mkF m pc ls st) := by
  obtain ⟨⟨hx, hby, hml, hZ, hown, hnm, hret, hlk⟩, hs0, eT, locs, S, N⟩ := X
  subst hp
  exact Run.of (fun t q => XS.aloadN S.here hx rfl (hb hby hd) hl rfl q) r
theorem r_aload (X : Here p l e R s m args below meth c Z own nm bs ml rt n0 T h k n) {i : Nat} {a : Addr} (hd : decode bs pc = .ok (.aload i, 2)) (hl : ls[i]? = some (.val (.ref a))) (hp : pc + 2 = pc') (r : Run p e below F T (mkF m pc' ls (.ref a :: st))) : Run p e below F T (mkF m pc ls st) := by
  obtain ⟨⟨hx, hby, hml, hZ, hown, hnm, hret, hlk⟩, hs0, eT, locs, S, N⟩ := X
  subst hp
  exact Run.of (fun t q => XS.aload S.here hx rfl (hb hby hd) hl rfl q) r
theorem r_iloadN (X : Here p l e R s m args below meth c Z own nm bs ml rt n0 T h k n) {i : Fin 4} {v : Int32} (hd : decode bs pc = .ok (.iload_n i, 1)) (hl : ls[i.val]? = some (.val (.int v))) (hp : pc + 1 = pc') (r : Run p e below F T (mkF m pc' ls (.int v :: st))) : Run p e below F T (mkF m pc ls st) := by
  obtain ⟨⟨hx, hby, hml, hZ, hown, hnm, hret, hlk⟩, hs0, eT, locs, S, N⟩ := X
  subst hp
  exact Run.of (fun t q => XS.iloadN S.here hx rfl (hb hby hd) hl q) r
theorem r_iload (X : Here p l e R s m args below meth c Z own nm bs ml rt n0 T h k n) {i : Nat} {v : Int32} (hd : decode bs pc = .ok (.iload i, 2)) (hl : ls[i]? = some (.val (.int v))) (hp : pc + 2 = pc') (r : Run p e below F T (mkF m pc' ls (.int v :: st))) : Run p e below F T (mkF m pc ls st) := by
  obtain ⟨⟨hx, hby, hml, hZ, hown, hnm, hret, hlk⟩, hs0, eT, locs, S, N⟩ := X
  subst hp
  exact Run.of (fun t q => XS.iload S.here hx rfl (hb hby hd) hl q) r
theorem r_lloadN (X : Here p l e R s m args below meth c Z own nm bs ml rt n0 T h k n) {i : Fin 4} {v : Int64} (hd : decode bs pc = .ok (.lload_n i, 1)) (hl : ls[i.val]? = some (.val (.long v))) (hp : pc + 1 = pc') (r : Run p e below F T (mkF m pc' ls (.long v :: st))) : Run p e below F T (mkF m pc ls st) := by
  obtain ⟨⟨hx, hby, hml, hZ, hown, hnm, hret, hlk⟩, hs0, eT, locs, S, N⟩ := X
  subst hp
  exact Run.of (fun t q => XT.lloadN S.here hx rfl (hb hby hd) hl q) r
theorem r_lload (X : Here p l e R s m args below meth c Z own nm bs ml rt n0 T h k n) {i : Nat} {v : Int64} (hd : decode bs pc = .ok (.lload i, 2)) (hl : ls[i]? = some (.val (.long v))) (hp : pc + 2 = pc') (r : Run p e below F T (mkF m pc' ls (.long v :: st))) : Run p e below F T (mkF m pc ls st) := by
  obtain ⟨⟨hx, hby, hml, hZ, hown, hnm, hret, hlk⟩, hs0, eT, locs, S, N⟩ := X
  subst hp
  exact Run.of (fun t q => XT.lload S.here hx rfl (hb hby hd) hl q) r
theorem r_istoreN (X : Here p l e R s m args below meth c Z own nm bs ml rt n0 T h k n) {i : Fin 4} {v : Int32} (hd : decode bs pc = .ok (.istore_n i, 1)) (hl : storeLocals ls i.val (.int v) = some ls') (hp : pc + 1 = pc') (r : Run p e below F T (mkF m pc' ls' st)) : Run p e below F T (mkF m pc ls (.int v :: st)) := by
  obtain ⟨⟨hx, hby, hml, hZ, hown, hnm, hret, hlk⟩, hs0, eT, locs, S, N⟩ := X
  subst hp
  exact Run.of (fun t q => XS.istoreN S.here hx rfl (hb hby hd) rfl hl q) r
theorem r_istore (X : Here p l e R s m args below meth c Z own nm bs ml rt n0 T h k n) {i : Nat} {v : Int32} (hd : decode bs pc = .ok (.istore i, 2)) (hl : storeLocals ls i (.int v) = some ls') (hp : pc + 2 = pc') (r : Run p e below F T (mkF m pc' ls' st)) : Run p e below F T (mkF m pc ls (.int v :: st)) := by
  obtain ⟨⟨hx, hby, hml, hZ, hown, hnm, hret, hlk⟩, hs0, eT, locs, S, N⟩ := X
  subst hp
  exact Run.of (fun t q => XS.istore S.here hx rfl (hb hby hd) rfl hl q) r
theorem r_lstoreN (X : Here p l e R s m args below meth c Z own nm bs ml rt n0 T h k n) {i : Fin 4} {v : Int64} (hd : decode bs pc = .ok (.lstore_n i, 1)) (hl : storeLocals ls i.val (.long v) = some ls') (hp : pc + 1 = pc') (r : Run p e below F T (mkF m pc' ls' st)) : Run p e below F T (mkF m pc ls (.long v :: st)) := by
  obtain ⟨⟨hx, hby, hml, hZ, hown, hnm, hret, hlk⟩, hs0, eT, locs, S, N⟩ := X
  subst hp
  exact Run.of (fun t q => XT.lstoreN S.here hx rfl (hb hby hd) rfl hl q) r
theorem r_lstore (X : Here p l e R s m args below meth c Z own nm bs ml rt n0 T h k n) {i : Nat} {v : Int64} (hd : decode bs pc = .ok (.lstore i, 2)) (hl : storeLocals ls i (.long v) = some ls') (hp : pc + 2 = pc') (r : Run p e below F T (mkF m pc' ls' st)) : Run p e below F T (mkF m pc ls (.long v :: st)) := by
  obtain ⟨⟨hx, hby, hml, hZ, hown, hnm, hret, hlk⟩, hs0, eT, locs, S, N⟩ := X
  subst hp
  exact Run.of (fun t q => XT.lstore S.here hx rfl (hb hby hd) rfl hl q) r
theorem r_astoreN (X : Here p l e R s m args below meth c Z own nm bs ml rt n0 T h k n) {i : Fin 4} {v : Addr} (hd : decode bs pc = .ok (.astore_n i, 1)) (hl : storeLocals ls i.val (.ref v) = some ls') (hp : pc + 1 = pc') (r : Run p e below F T (mkF m pc' ls' st)) : Run p e below F T (mkF m pc ls (.ref v :: st)) := by
  obtain ⟨⟨hx, hby, hml, hZ, hown, hnm, hret, hlk⟩, hs0, eT, locs, S, N⟩ := X
  subst hp
  exact Run.of (fun t q => XS.astoreN S.here hx rfl (hb hby hd) rfl rfl hl q) r
theorem r_astore (X : Here p l e R s m args below meth c Z own nm bs ml rt n0 T h k n) {i : Nat} {v : Addr} (hd : decode bs pc = .ok (.astore i, 2)) (hl : storeLocals ls i (.ref v) = some ls') (hp : pc + 2 = pc') (r : Run p e below F T (mkF m pc' ls' st)) : Run p e below F T (mkF m pc ls (.ref v :: st)) := by
  obtain ⟨⟨hx, hby, hml, hZ, hown, hnm, hret, hlk⟩, hs0, eT, locs, S, N⟩ := X
  subst hp
  exact Run.of (fun t q => XS.astore S.here hx rfl (hb hby hd) rfl rfl hl q) r
theorem r_iconst (X : Here p l e R s m args below meth c Z own nm bs ml rt n0 T h k n) {i : Int} {v : Int32} (hd : decode bs pc = .ok (.iconst i, 1)) (hv : Int32.ofInt i = v) (hp : pc + 1 = pc') (r : Run p e below F T (mkF m pc' ls (.int v :: st))) : Run p e below F T (mkF m pc ls st) := by
  obtain ⟨⟨hx, hby, hml, hZ, hown, hnm, hret, hlk⟩, hs0, eT, locs, S, N⟩ := X
  subst hp
  exact Run.of (fun t q => XS.iconst S.here hx rfl (hb hby hd) (by rw [hv]; exact q)) r
theorem r_bipush (X : Here p l e R s m args below meth c Z own nm bs ml rt n0 T h k n) {i : Int} {v : Int32} (hd : decode bs pc = .ok (.bipush i, 2)) (hv : (Int8.ofInt i).toInt32 = v) (hp : pc + 2 = pc') (r : Run p e below F T (mkF m pc' ls (.int v :: st))) : Run p e below F T (mkF m pc ls st) := by
  obtain ⟨⟨hx, hby, hml, hZ, hown, hnm, hret, hlk⟩, hs0, eT, locs, S, N⟩ := X
  subst hp
  exact Run.of (fun t q => XS.bipush S.here hx rfl (hb hby hd) (by rw [hv]; exact q)) r
theorem r_sipush (X : Here p l e R s m args below meth c Z own nm bs ml rt n0 T h k n) {i : Int} {v : Int32} (hd : decode bs pc = .ok (.sipush i, 3)) (hv : (Int16.ofInt i).toInt32 = v) (hp : pc + 3 = pc') (r : Run p e below F T (mkF m pc' ls (.int v :: st))) : Run p e below F T (mkF m pc ls st) := by
  obtain ⟨⟨hx, hby, hml, hZ, hown, hnm, hret, hlk⟩, hs0, eT, locs, S, N⟩ := X
  subst hp
  exact Run.of (fun t q => XS.sipush S.here hx rfl (hb hby hd) (by rw [hv]; exact q)) r
theorem r_lconst (X : Here p l e R s m args below meth c Z own nm bs ml rt n0 T h k n) {i : Fin 2} {v : Int64} (hd : decode bs pc = .ok (.lconst i, 1)) (hv : Int64.ofNat i = v) (hp : pc + 1 = pc') (r : Run p e below F T (mkF m pc' ls (.long v :: st))) : Run p e below F T (mkF m pc ls st) := by
  obtain ⟨⟨hx, hby, hml, hZ, hown, hnm, hret, hlk⟩, hs0, eT, locs, S, N⟩ := X
  subst hp
  exact Run.of (fun t q => XT.lconst S.here hx rfl (hb hby hd) (by rw [hv]; exact q)) r
theorem r_ldcI (X : Here p l e R s m args below meth c Z own nm bs ml rt n0 T h k n) {i : Nat} {v : Int32} (hd : decode bs pc = .ok (.ldc i, 2)) (w : (Jvm.Cond.constant own i v).before a0 Z = true) (hp : pc + 2 = pc') (r : Run p e below F T (mkF m pc' ls (.int v :: st))) : Run p e below F T (mkF m pc ls st) := by
  obtain ⟨⟨hx, hby, hml, hZ, hown, hnm, hret, hlk⟩, hs0, eT, locs, S, N⟩ := X
  subst hp
  exact Run.of (fun t q => S.ldcI hx hown (mvT hZ w) rfl (hb hby hd) q) r
theorem r_ldc2J (X : Here p l e R s m args below meth c Z own nm bs ml rt n0 T h k n) {i : Nat} {v : Int64} (hd : decode bs pc = .ok (.ldc2_w i, 3)) (w : (Jvm.Cond.constantLong own i v).before a0 Z = true) (hp : pc + 3 = pc') (r : Run p e below F T (mkF m pc' ls (.long v :: st))) : Run p e below F T (mkF m pc ls st) := by
  obtain ⟨⟨hx, hby, hml, hZ, hown, hnm, hret, hlk⟩, hs0, eT, locs, S, N⟩ := X
  subst hp
  exact Run.of (fun t q => S.ldc2J hx hown (mvT hZ w) rfl (hb hby hd) q) r
theorem r_iadd (X : Here p l e R s m args below meth c Z own nm bs ml rt n0 T h k n) {x y z : Int32} (hd : decode bs pc = .ok (.iadd, 1)) (hv : x + y = z) (hp : pc + 1 = pc') (r : Run p e below F T (mkF m pc' ls (.int z :: st))) : Run p e below F T (mkF m pc ls (.int y :: .int x :: st)) := by
  obtain ⟨⟨hx, hby, hml, hZ, hown, hnm, hret, hlk⟩, hs0, eT, locs, S, N⟩ := X
  subst hp
  exact Run.of (fun t q => XS.iadd S.here hx rfl (hb hby hd) rfl (by rw [hv]; exact q)) r
theorem r_isub (X : Here p l e R s m args below meth c Z own nm bs ml rt n0 T h k n) {x y z : Int32} (hd : decode bs pc = .ok (.isub, 1)) (hv : x - y = z) (hp : pc + 1 = pc') (r : Run p e below F T (mkF m pc' ls (.int z :: st))) : Run p e below F T (mkF m pc ls (.int y :: .int x :: st)) := by
  obtain ⟨⟨hx, hby, hml, hZ, hown, hnm, hret, hlk⟩, hs0, eT, locs, S, N⟩ := X
  subst hp
  exact Run.of (fun t q => XS.isub S.here hx rfl (hb hby hd) rfl (by rw [hv]; exact q)) r
theorem r_imul (X : Here p l e R s m args below meth c Z own nm bs ml rt n0 T h k n) {x y z : Int32} (hd : decode bs pc = .ok (.imul, 1)) (hv : x * y = z) (hp : pc + 1 = pc') (r : Run p e below F T (mkF m pc' ls (.int z :: st))) : Run p e below F T (mkF m pc ls (.int y :: .int x :: st)) := by
  obtain ⟨⟨hx, hby, hml, hZ, hown, hnm, hret, hlk⟩, hs0, eT, locs, S, N⟩ := X
  subst hp
  exact Run.of (fun t q => XS.imul S.here hx rfl (hb hby hd) rfl (by rw [hv]; exact q)) r
theorem r_iand (X : Here p l e R s m args below meth c Z own nm bs ml rt n0 T h k n) {x y z : Int32} (hd : decode bs pc = .ok (.iand, 1)) (hv : x &&& y = z) (hp : pc + 1 = pc') (r : Run p e below F T (mkF m pc' ls (.int z :: st))) : Run p e below F T (mkF m pc ls (.int y :: .int x :: st)) := by
  obtain ⟨⟨hx, hby, hml, hZ, hown, hnm, hret, hlk⟩, hs0, eT, locs, S, N⟩ := X
  subst hp
  exact Run.of (fun t q => XS.iand S.here hx rfl (hb hby hd) rfl (by rw [hv]; exact q)) r
theorem r_ior (X : Here p l e R s m args below meth c Z own nm bs ml rt n0 T h k n) {x y z : Int32} (hd : decode bs pc = .ok (.ior, 1)) (hv : x ||| y = z) (hp : pc + 1 = pc') (r : Run p e below F T (mkF m pc' ls (.int z :: st))) : Run p e below F T (mkF m pc ls (.int y :: .int x :: st)) := by
  obtain ⟨⟨hx, hby, hml, hZ, hown, hnm, hret, hlk⟩, hs0, eT, locs, S, N⟩ := X
  subst hp
  exact Run.of (fun t q => XT.ior S.here hx rfl (hb hby hd) rfl (by rw [hv]; exact q)) r
theorem r_ixor (X : Here p l e R s m args below meth c Z own nm bs ml rt n0 T h k n) {x y z : Int32} (hd : decode bs pc = .ok (.ixor, 1)) (hv : x ^^^ y = z) (hp : pc + 1 = pc') (r : Run p e below F T (mkF m pc' ls (.int z :: st))) : Run p e below F T (mkF m pc ls (.int y :: .int x :: st)) := by
  obtain ⟨⟨hx, hby, hml, hZ, hown, hnm, hret, hlk⟩, hs0, eT, locs, S, N⟩ := X
  subst hp
  exact Run.of (fun t q => XT.ixor S.here hx rfl (hb hby hd) rfl (by rw [hv]; exact q)) r
theorem r_ishl (X : Here p l e R s m args below meth c Z own nm bs ml rt n0 T h k n) {x y z : Int32} (hd : decode bs pc = .ok (.ishl, 1)) (hv : x <<< (y &&& 31) = z) (hp : pc + 1 = pc') (r : Run p e below F T (mkF m pc' ls (.int z :: st))) : Run p e below F T (mkF m pc ls (.int y :: .int x :: st)) := by
  obtain ⟨⟨hx, hby, hml, hZ, hown, hnm, hret, hlk⟩, hs0, eT, locs, S, N⟩ := X
  subst hp
  exact Run.of (fun t q => XT.ishl S.here hx rfl (hb hby hd) rfl (by rw [hv]; exact q)) r
theorem r_ishr (X : Here p l e R s m args below meth c Z own nm bs ml rt n0 T h k n) {x y z : Int32} (hd : decode bs pc = .ok (.ishr, 1)) (hv : x >>> (y &&& 31) = z) (hp : pc + 1 = pc') (r : Run p e below F T (mkF m pc' ls (.int z :: st))) : Run p e below F T (mkF m pc ls (.int y :: .int x :: st)) := by
  obtain ⟨⟨hx, hby, hml, hZ, hown, hnm, hret, hlk⟩, hs0, eT, locs, S, N⟩ := X
  subst hp
  exact Run.of (fun t q => XT.ishr S.here hx rfl (hb hby hd) rfl (by rw [hv]; exact q)) r
theorem r_iushr (X : Here p l e R s m args below meth c Z own nm bs ml rt n0 T h k n) {x y z : Int32} (hd : decode bs pc = .ok (.iushr, 1)) (hv : XT.ushr x y = z) (hp : pc + 1 = pc') (r : Run p e below F T (mkF m pc' ls (.int z :: st))) : Run p e below F T (mkF m pc ls (.int y :: .int x :: st)) := by
  obtain ⟨⟨hx, hby, hml, hZ, hown, hnm, hret, hlk⟩, hs0, eT, locs, S, N⟩ := X
  subst hp
  exact Run.of (fun t q => XT.iushr S.here hx rfl (hb hby hd) rfl (by rw [hv]; exact q)) r
theorem r_irem (X : Here p l e R s m args below meth c Z own nm bs ml rt n0 T h k n) {x y z : Int32} (hd : decode bs pc = .ok (.irem, 1)) (hy : y ≠ 0) (hv : x % y = z) (hp : pc + 1 = pc') (r : Run p e below F T (mkF m pc' ls (.int z :: st))) : Run p e below F T (mkF m pc ls (.int y :: .int x :: st)) := by
  obtain ⟨⟨hx, hby, hml, hZ, hown, hnm, hret, hlk⟩, hs0, eT, locs, S, N⟩ := X
  subst hp
  exact Run.of (fun t q => iremM S hx rfl (hb hby hd) rfl hy (by rw [hv]; exact q)) r
theorem r_idiv (X : Here p l e R s m args below meth c Z own nm bs ml rt n0 T h k n) {x y z : Int32} (hd : decode bs pc = .ok (.idiv, 1)) (hy : y ≠ 0) (hv : x / y = z) (hp : pc + 1 = pc') (r : Run p e below F T (mkF m pc' ls (.int z :: st))) : Run p e below F T (mkF m pc ls (.int y :: .int x :: st)) := by
  obtain ⟨⟨hx, hby, hml, hZ, hown, hnm, hret, hlk⟩, hs0, eT, locs, S, N⟩ := X
  subst hp
  exact Run.of (fun t q => XS.idiv S.here hx rfl (hb hby hd) rfl hy (by rw [hv]; exact q)) r
theorem r_ladd (X : Here p l e R s m args below meth c Z own nm bs ml rt n0 T h k n) {x y z : Int64} (hd : decode bs pc = .ok (.ladd, 1)) (hv : x + y = z) (hp : pc + 1 = pc') (r : Run p e below F T (mkF m pc' ls (.long z :: st))) : Run p e below F T (mkF m pc ls (.long y :: .long x :: st)) := by
  obtain ⟨⟨hx, hby, hml, hZ, hown, hnm, hret, hlk⟩, hs0, eT, locs, S, N⟩ := X
  subst hp
  exact Run.of (fun t q => XT.ladd S.here hx rfl (hb hby hd) rfl (by rw [hv]; exact q)) r
theorem r_lsub (X : Here p l e R s m args below meth c Z own nm bs ml rt n0 T h k n) {x y z : Int64} (hd : decode bs pc = .ok (.lsub, 1)) (hv : x - y = z) (hp : pc + 1 = pc') (r : Run p e below F T (mkF m pc' ls (.long z :: st))) : Run p e below F T (mkF m pc ls (.long y :: .long x :: st)) := by
  obtain ⟨⟨hx, hby, hml, hZ, hown, hnm, hret, hlk⟩, hs0, eT, locs, S, N⟩ := X
  subst hp
  exact Run.of (fun t q => XT.lsub S.here hx rfl (hb hby hd) rfl (by rw [hv]; exact q)) r
theorem r_lmul (X : Here p l e R s m args below meth c Z own nm bs ml rt n0 T h k n) {x y z : Int64} (hd : decode bs pc = .ok (.lmul, 1)) (hv : x * y = z) (hp : pc + 1 = pc') (r : Run p e below F T (mkF m pc' ls (.long z :: st))) : Run p e below F T (mkF m pc ls (.long y :: .long x :: st)) := by
  obtain ⟨⟨hx, hby, hml, hZ, hown, hnm, hret, hlk⟩, hs0, eT, locs, S, N⟩ := X
  subst hp
  exact Run.of (fun t q => XT.lmul S.here hx rfl (hb hby hd) rfl (by rw [hv]; exact q)) r
theorem r_land (X : Here p l e R s m args below meth c Z own nm bs ml rt n0 T h k n) {x y z : Int64} (hd : decode bs pc = .ok (.land, 1)) (hv : x &&& y = z) (hp : pc + 1 = pc') (r : Run p e below F T (mkF m pc' ls (.long z :: st))) : Run p e below F T (mkF m pc ls (.long y :: .long x :: st)) := by
  obtain ⟨⟨hx, hby, hml, hZ, hown, hnm, hret, hlk⟩, hs0, eT, locs, S, N⟩ := X
  subst hp
  exact Run.of (fun t q => XT.land S.here hx rfl (hb hby hd) rfl (by rw [hv]; exact q)) r
theorem r_lor (X : Here p l e R s m args below meth c Z own nm bs ml rt n0 T h k n) {x y z : Int64} (hd : decode bs pc = .ok (.lor, 1)) (hv : x ||| y = z) (hp : pc + 1 = pc') (r : Run p e below F T (mkF m pc' ls (.long z :: st))) : Run p e below F T (mkF m pc ls (.long y :: .long x :: st)) := by
  obtain ⟨⟨hx, hby, hml, hZ, hown, hnm, hret, hlk⟩, hs0, eT, locs, S, N⟩ := X
  subst hp
  exact Run.of (fun t q => XT.lor S.here hx rfl (hb hby hd) rfl (by rw [hv]; exact q)) r
theorem r_lxor (X : Here p l e R s m args below meth c Z own nm bs ml rt n0 T h k n) {x y z : Int64} (hd : decode bs pc = .ok (.lxor, 1)) (hv : x ^^^ y = z) (hp : pc + 1 = pc') (r : Run p e below F T (mkF m pc' ls (.long z :: st))) : Run p e below F T (mkF m pc ls (.long y :: .long x :: st)) := by
  obtain ⟨⟨hx, hby, hml, hZ, hown, hnm, hret, hlk⟩, hs0, eT, locs, S, N⟩ := X
  subst hp
  exact Run.of (fun t q => XT.lxor S.here hx rfl (hb hby hd) rfl (by rw [hv]; exact q)) r
theorem r_ldiv (X : Here p l e R s m args below meth c Z own nm bs ml rt n0 T h k n) {x y z : Int64} (hd : decode bs pc = .ok (.ldiv, 1)) (hy : y ≠ 0) (hv : x / y = z) (hp : pc + 1 = pc') (r : Run p e below F T (mkF m pc' ls (.long z :: st))) : Run p e below F T (mkF m pc ls (.long y :: .long x :: st)) := by
  obtain ⟨⟨hx, hby, hml, hZ, hown, hnm, hret, hlk⟩, hs0, eT, locs, S, N⟩ := X
  subst hp
  exact Run.of (fun t q => XT.ldiv S.here hx rfl (hb hby hd) rfl hy (by rw [hv]; exact q)) r
theorem r_lrem (X : Here p l e R s m args below meth c Z own nm bs ml rt n0 T h k n) {x y z : Int64} (hd : decode bs pc = .ok (.lrem, 1)) (hy : y ≠ 0) (hv : x - (x / y) * y = z) (hp : pc + 1 = pc') (r : Run p e below F T (mkF m pc' ls (.long z :: st))) : Run p e below F T (mkF m pc ls (.long y :: .long x :: st)) := by
  obtain ⟨⟨hx, hby, hml, hZ, hown, hnm, hret, hlk⟩, hs0, eT, locs, S, N⟩ := X
  subst hp
  exact Run.of (fun t q => XT.lrem S.here hx rfl (hb hby hd) rfl hy (by rw [hv]; exact q)) r
theorem r_lshl (X : Here p l e R s m args below meth c Z own nm bs ml rt n0 T h k n) {x z : Int64} {y : Int32} (hd : decode bs pc = .ok (.lshl, 1)) (hv : x <<< (y.toInt64 &&& 63) = z) (hp : pc + 1 = pc') (r : Run p e below F T (mkF m pc' ls (.long z :: st))) : Run p e below F T (mkF m pc ls (.int y :: .long x :: st)) := by
  obtain ⟨⟨hx, hby, hml, hZ, hown, hnm, hret, hlk⟩, hs0, eT, locs, S, N⟩ := X
  subst hp
  exact Run.of (fun t q => XT.lshl S.here hx rfl (hb hby hd) rfl (by rw [hv]; exact q)) r
theorem r_lshr (X : Here p l e R s m args below meth c Z own nm bs ml rt n0 T h k n) {x z : Int64} {y : Int32} (hd : decode bs pc = .ok (.lshr, 1)) (hv : x >>> (y.toInt64 &&& 63) = z) (hp : pc + 1 = pc') (r : Run p e below F T (mkF m pc' ls (.long z :: st))) : Run p e below F T (mkF m pc ls (.int y :: .long x :: st)) := by
  obtain ⟨⟨hx, hby, hml, hZ, hown, hnm, hret, hlk⟩, hs0, eT, locs, S, N⟩ := X
  subst hp
  exact Run.of (fun t q => XT.lshr S.here hx rfl (hb hby hd) rfl (by rw [hv]; exact q)) r
theorem r_lushr (X : Here p l e R s m args below meth c Z own nm bs ml rt n0 T h k n) {x z : Int64} {y : Int32} (hd : decode bs pc = .ok (.lushr, 1)) (hv : XT.ushrL x y = z) (hp : pc + 1 = pc') (r : Run p e below F T (mkF m pc' ls (.long z :: st))) : Run p e below F T (mkF m pc ls (.int y :: .long x :: st)) := by
  obtain ⟨⟨hx, hby, hml, hZ, hown, hnm, hret, hlk⟩, hs0, eT, locs, S, N⟩ := X
  subst hp
  exact Run.of (fun t q => XT.lushr S.here hx rfl (hb hby hd) rfl (by rw [hv]; exact q)) r
theorem r_i2b (X : Here p l e R s m args below meth c Z own nm bs ml rt n0 T h k n) {x z : Int32} (hd : decode bs pc = .ok (.i2b, 1)) (hv : x.toInt8.toInt32 = z) (hp : pc + 1 = pc') (r : Run p e below F T (mkF m pc' ls (.int z :: st))) : Run p e below F T (mkF m pc ls (.int x :: st)) := by
  obtain ⟨⟨hx, hby, hml, hZ, hown, hnm, hret, hlk⟩, hs0, eT, locs, S, N⟩ := X
  subst hp
  exact Run.of (fun t q => XT.i2b S.here hx rfl (hb hby hd) rfl (by rw [hv]; exact q)) r
theorem r_i2c (X : Here p l e R s m args below meth c Z own nm bs ml rt n0 T h k n) {x z : Int32} (hd : decode bs pc = .ok (.i2c, 1)) (hv : x.toUInt32.toUInt16.toUInt32.toInt32 = z) (hp : pc + 1 = pc') (r : Run p e below F T (mkF m pc' ls (.int z :: st))) : Run p e below F T (mkF m pc ls (.int x :: st)) := by
  obtain ⟨⟨hx, hby, hml, hZ, hown, hnm, hret, hlk⟩, hs0, eT, locs, S, N⟩ := X
  subst hp
  exact Run.of (fun t q => XT.i2c S.here hx rfl (hb hby hd) rfl (by rw [hv]; exact q)) r
theorem r_i2s (X : Here p l e R s m args below meth c Z own nm bs ml rt n0 T h k n) {x z : Int32} (hd : decode bs pc = .ok (.i2s, 1)) (hv : x.toInt16.toInt32 = z) (hp : pc + 1 = pc') (r : Run p e below F T (mkF m pc' ls (.int z :: st))) : Run p e below F T (mkF m pc ls (.int x :: st)) := by
  obtain ⟨⟨hx, hby, hml, hZ, hown, hnm, hret, hlk⟩, hs0, eT, locs, S, N⟩ := X
  subst hp
  exact Run.of (fun t q => XT.i2s S.here hx rfl (hb hby hd) rfl (by rw [hv]; exact q)) r
theorem r_i2l (X : Here p l e R s m args below meth c Z own nm bs ml rt n0 T h k n) {x : Int32} {z : Int64} (hd : decode bs pc = .ok (.i2l, 1)) (hv : x.toInt64 = z) (hp : pc + 1 = pc') (r : Run p e below F T (mkF m pc' ls (.long z :: st))) : Run p e below F T (mkF m pc ls (.int x :: st)) := by
  obtain ⟨⟨hx, hby, hml, hZ, hown, hnm, hret, hlk⟩, hs0, eT, locs, S, N⟩ := X
  subst hp
  exact Run.of (fun t q => XT.i2l S.here hx rfl (hb hby hd) rfl (by rw [hv]; exact q)) r
theorem r_l2i (X : Here p l e R s m args below meth c Z own nm bs ml rt n0 T h k n) {x : Int64} {z : Int32} (hd : decode bs pc = .ok (.l2i, 1)) (hv : x.toInt32 = z) (hp : pc + 1 = pc') (r : Run p e below F T (mkF m pc' ls (.int z :: st))) : Run p e below F T (mkF m pc ls (.long x :: st)) := by
  obtain ⟨⟨hx, hby, hml, hZ, hown, hnm, hret, hlk⟩, hs0, eT, locs, S, N⟩ := X
  subst hp
  exact Run.of (fun t q => XT.l2i S.here hx rfl (hb hby hd) rfl (by rw [hv]; exact q)) r
theorem r_lcmp (X : Here p l e R s m args below meth c Z own nm bs ml rt n0 T h k n) {x y : Int64} {z : Int32} (hd : decode bs pc = .ok (.lcmp, 1)) (hv : XT.cmpL x y = z) (hp : pc + 1 = pc') (r : Run p e below F T (mkF m pc' ls (.int z :: st))) : Run p e below F T (mkF m pc ls (.long y :: .long x :: st)) := by
  obtain ⟨⟨hx, hby, hml, hZ, hown, hnm, hret, hlk⟩, hs0, eT, locs, S, N⟩ := X
  subst hp
  exact Run.of (fun t q => XT.lcmp S.here hx rfl (hb hby hd) rfl (by rw [hv]; exact q)) r
theorem r_dup (X : Here p l e R s m args below meth c Z own nm bs ml rt n0 T h k n) {x : Value} (hd : decode bs pc = .ok (.dup, 1)) (hc : x.category = 1) (hp : pc + 1 = pc') (r : Run p e below F T (mkF m pc' ls (x :: x :: st))) : Run p e below F T (mkF m pc ls (x :: st)) := by
  obtain ⟨⟨hx, hby, hml, hZ, hown, hnm, hret, hlk⟩, hs0, eT, locs, S, N⟩ := X
  subst hp
  exact Run.of (fun t q => XS.dup S.here hx rfl (hb hby hd) rfl hc q) r
theorem r_dupX1 (X : Here p l e R s m args below meth c Z own nm bs ml rt n0 T h k n) {x y : Value} (hd : decode bs pc = .ok (.dup_x1, 1)) (hc : x.category = 1) (hc' : y.category = 1) (hp : pc + 1 = pc') (r : Run p e below F T (mkF m pc' ls (x :: y :: x :: st))) : Run p e below F T (mkF m pc ls (x :: y :: st)) := by
  obtain ⟨⟨hx, hby, hml, hZ, hown, hnm, hret, hlk⟩, hs0, eT, locs, S, N⟩ := X
  subst hp
  exact Run.of (fun t q => XT.dupX1 S.here hx rfl (hb hby hd) rfl hc hc' q) r
theorem r_pop (X : Here p l e R s m args below meth c Z own nm bs ml rt n0 T h k n) {x : Value} (hd : decode bs pc = .ok (.pop, 1)) (hc : x.category = 1) (hp : pc + 1 = pc') (r : Run p e below F T (mkF m pc' ls st)) : Run p e below F T (mkF m pc ls (x :: st)) := by
  obtain ⟨⟨hx, hby, hml, hZ, hown, hnm, hret, hlk⟩, hs0, eT, locs, S, N⟩ := X
  subst hp
  exact Run.of (fun t q => XT.pop S.here hx rfl (hb hby hd) rfl hc q) r
theorem r_iinc (X : Here p l e R s m args below meth c Z own nm bs ml rt n0 T h k n) {i : Nat} {d : Int} {x z : Int32} (hd : decode bs pc = .ok (.iinc i d, 3)) (hl : ls[i]? = some (.val (.int x))) (hv : x + Int32.ofInt d = z) (hl' : storeLocals ls i (.int z) = some ls') (hp : pc + 3 = pc') (r : Run p e below F T (mkF m pc' ls' st)) : Run p e below F T (mkF m pc ls st) := by
  obtain ⟨⟨hx, hby, hml, hZ, hown, hnm, hret, hlk⟩, hs0, eT, locs, S, N⟩ := X
  subst hp
  exact Run.of (fun t q => XS.iinc S.here hx rfl (hb hby hd) hl (by rw [hv]; exact hl') q) r
theorem r_goto (X : Here p l e R s m args below meth c Z own nm bs ml rt n0 T h k n) {o : Int} (hd : decode bs pc = .ok (.goto o, 3)) (ho : 0 ≤ (pc : Int) + o) (hp : ((pc : Int) + o).toNat = pc') (r : Run p e below F T (mkF m pc' ls st)) : Run p e below F T (mkF m pc ls st) := by
  obtain ⟨⟨hx, hby, hml, hZ, hown, hnm, hret, hlk⟩, hs0, eT, locs, S, N⟩ := X
  exact Run.of (fun t q => XS.goto S.here hx rfl rfl (hb hby hd) ho hp q) r
theorem r_icmp (X : Here p l e R s m args below meth c Z own nm bs ml rt n0 T h k n) {cd : ClassFile.Cond} {o : Int} (hd : decode bs pc = .ok (.if_icmp cd o, 3)) (ho : 0 ≤ (pc : Int) + o) (hp : ((pc : Int) + o).toNat = pc') (hp2 : pc + 3 = pc2) {x y : Int32} {a b : Int} (ha : x.toInt = a) (hb' : y.toInt = b) (yes : cnd cd a b → Run p e below F T (mkF m pc' ls st)) (no : ¬ cnd cd a b → Run p e below F T (mkF m pc2 ls st)) : Run p e below F T (mkF m pc ls (.int y :: .int x :: st)) := by
  obtain ⟨⟨hx, hby, hml, hZ, hown, hnm, hret, hlk⟩, hs0, eT, locs, S, N⟩ := X
  subst ha hb' hp2
  by_cases w : cnd cd x.toInt (y : Int32).toInt
  · exact Run.of (fun t q => XS.icmpYes S.here hx rfl rfl (hb hby hd) rfl (((cnd_iff cd x y).mpr w)) ho hp q) (yes w)
  · exact Run.of (fun t q => XS.icmpNo S.here hx rfl (hb hby hd) rfl ((Bool.eq_false_iff.mpr fun z => w ((cnd_iff cd x y).mp z))) q) (no w)
theorem r_icmpY (X : Here p l e R s m args below meth c Z own nm bs ml rt n0 T h k n) {cd : ClassFile.Cond} {o : Int} (hd : decode bs pc = .ok (.if_icmp cd o, 3)) (ho : 0 ≤ (pc : Int) + o) (hp : ((pc : Int) + o).toNat = pc') {x y : Int32} {a b : Int} (ha : x.toInt = a) (hb' : y.toInt = b) (w : cnd cd a b) (r : Run p e below F T (mkF m pc' ls st)) : Run p e below F T (mkF m pc ls (.int y :: .int x :: st)) :=
  r_icmp X hd ho hp rfl ha hb' (fun _ => r) (fun z => absurd w z)
theorem r_icmpN (X : Here p l e R s m args below meth c Z own nm bs ml rt n0 T h k n) {cd : ClassFile.Cond} {o : Int} (hd : decode bs pc = .ok (.if_icmp cd o, 3)) (ho : 0 ≤ (pc : Int) + o) (hp2 : pc + 3 = pc2) {x y : Int32} {a b : Int} (ha : x.toInt = a) (hb' : y.toInt = b) (w : ¬ cnd cd a b) (r : Run p e below F T (mkF m pc2 ls st)) : Run p e below F T (mkF m pc ls (.int y :: .int x :: st)) :=
  r_icmp X hd ho rfl hp2 ha hb' (fun z => absurd z w) (fun _ => r)
theorem r_if (X : Here p l e R s m args below meth c Z own nm bs ml rt n0 T h k n) {cd : ClassFile.Cond} {o : Int} (hd : decode bs pc = .ok (.ifCond cd o, 3)) (ho : 0 ≤ (pc : Int) + o) (hp : ((pc : Int) + o).toNat = pc') (hp2 : pc + 3 = pc2) {x : Int32} {a b : Int} (ha : x.toInt = a) (hb' : (0 : Int32).toInt = b) (yes : cnd cd a b → Run p e below F T (mkF m pc' ls st)) (no : ¬ cnd cd a b → Run p e below F T (mkF m pc2 ls st)) : Run p e below F T (mkF m pc ls (.int x :: st)) := by
  obtain ⟨⟨hx, hby, hml, hZ, hown, hnm, hret, hlk⟩, hs0, eT, locs, S, N⟩ := X
  subst ha hb' hp2
  by_cases w : cnd cd x.toInt (0 : Int32).toInt
  · exact Run.of (fun t q => XS.ifYes S.here hx rfl rfl (hb hby hd) rfl ((if0 _ _).trans ((cnd_iff cd x 0).mpr w)) ho hp q) (yes w)
  · exact Run.of (fun t q => XS.ifNo S.here hx rfl (hb hby hd) rfl ((if0 _ _).trans (Bool.eq_false_iff.mpr fun z => w ((cnd_iff cd x 0).mp z))) q) (no w)
theorem r_ifY (X : Here p l e R s m args below meth c Z own nm bs ml rt n0 T h k n) {cd : ClassFile.Cond} {o : Int} (hd : decode bs pc = .ok (.ifCond cd o, 3)) (ho : 0 ≤ (pc : Int) + o) (hp : ((pc : Int) + o).toNat = pc') {x : Int32} {a b : Int} (ha : x.toInt = a) (hb' : (0 : Int32).toInt = b) (w : cnd cd a b) (r : Run p e below F T (mkF m pc' ls st)) : Run p e below F T (mkF m pc ls (.int x :: st)) :=
  r_if X hd ho hp rfl ha hb' (fun _ => r) (fun z => absurd w z)
theorem r_ifN (X : Here p l e R s m args below meth c Z own nm bs ml rt n0 T h k n) {cd : ClassFile.Cond} {o : Int} (hd : decode bs pc = .ok (.ifCond cd o, 3)) (ho : 0 ≤ (pc : Int) + o) (hp2 : pc + 3 = pc2) {x : Int32} {a b : Int} (ha : x.toInt = a) (hb' : (0 : Int32).toInt = b) (w : ¬ cnd cd a b) (r : Run p e below F T (mkF m pc2 ls st)) : Run p e below F T (mkF m pc ls (.int x :: st)) :=
  r_if X hd ho rfl hp2 ha hb' (fun z => absurd z w) (fun _ => r)
theorem r_acmpN (X : Here p l e R s m args below meth c Z own nm bs ml rt n0 T h k n) {cd : ACond} {o : Int} {x y : Addr} (hd : decode bs pc = .ok (.if_acmp cd o, 3)) (hc : XT.acmp cd (.ref x) (.ref y) = false) (hp : pc + 3 = pc') (r : Run p e below F T (mkF m pc' ls st)) : Run p e below F T (mkF m pc ls (.ref y :: .ref x :: st)) := by
  obtain ⟨⟨hx, hby, hml, hZ, hown, hnm, hret, hlk⟩, hs0, eT, locs, S, N⟩ := X
  subst hp
  exact Run.of (fun t q => XT.acmpNo S.here hx rfl (hb hby hd) rfl rfl rfl hc q) r
theorem r_retN {ft : FieldType} (X : Here p l e R s m args below meth c Z own nm bs ml (some ft) n0 T h k n) (ht : ft = .boolean ∨ ft = .byte ∨ ft = .char ∨ ft = .short) (hd : decode bs pc = .ok (.ireturn, 1)) {z w : Int32} (hz : nar ft z = w) (hQ : Q (some (.int w)) h) (hk : k ≤ kc) (hn : n ≤ ks) : Run p e below (Fnl s n0 kc ks Q) T (mkF m pc ls (.int z :: st)) := by
  obtain ⟨⟨hx, hby, hml, hZ, hown, hnm, hret, hlk⟩, hs0, eT, locs, S, N⟩ := X
  subst hz
  obtain ⟨fs, hr, hrun, hended, hW, hsame⟩ := S.leave (v := some (.int (nar ft z))) (fun w => by rw [hret] at w; cases w)
  refine ⟨_, _, ?_, hrun, hended, _, _, rfl, ⟨?_, ?_, N⟩, ⟨_, rfl⟩, hW, hsame.mono hk hn⟩
  · exact retN S hx hret ht (hb hby hd) hr
  · show Q _ T.heap
    rw [eT]; exact hQ
  · show n0 ≤ T.heap.size
    rw [eT]; exact hs0
theorem r_retI (X : Here p l e R s m args below meth c Z own nm bs ml (some .int) n0 T h k n) (hd : decode bs pc = .ok (.ireturn, 1)) {z : Int32} (hQ : Q (some (.int z)) h) (hk : k ≤ kc) (hn : n ≤ ks) : Run p e below (Fnl s n0 kc ks Q) T (mkF m pc ls (.int z :: st)) := by
  obtain ⟨⟨hx, hby, hml, hZ, hown, hnm, hret, hlk⟩, hs0, eT, locs, S, N⟩ := X
  obtain ⟨fs, hr, hrun, hended, hW, hsame⟩ := S.leave (v := some (.int z)) (fun w => by rw [hret] at w; cases w)
  refine ⟨_, _, ?_, hrun, hended, _, _, rfl, ⟨?_, ?_, N⟩, ⟨_, rfl⟩, hW, hsame.mono hk hn⟩
  · exact retOut S hx hret rfl (Or.inl ⟨rfl, Or.inl rfl, _, rfl⟩) (hb hby hd) hr
  · show Q _ T.heap
    rw [eT]; exact hQ
  · show n0 ≤ T.heap.size
    rw [eT]; exact hs0
theorem r_retL (X : Here p l e R s m args below meth c Z own nm bs ml (some .long) n0 T h k n) (hd : decode bs pc = .ok (.lreturn, 1)) {z : Int64} (hQ : Q (some (.long z)) h) (hk : k ≤ kc) (hn : n ≤ ks) : Run p e below (Fnl s n0 kc ks Q) T (mkF m pc ls (.long z :: st)) := by
  obtain ⟨⟨hx, hby, hml, hZ, hown, hnm, hret, hlk⟩, hs0, eT, locs, S, N⟩ := X
  obtain ⟨fs, hr, hrun, hended, hW, hsame⟩ := S.leave (v := some (.long z)) (fun w => by rw [hret] at w; cases w)
  refine ⟨_, _, ?_, hrun, hended, _, _, rfl, ⟨?_, ?_, N⟩, ⟨_, rfl⟩, hW, hsame.mono hk hn⟩
  · exact retOut S hx hret rfl (Or.inr (Or.inl ⟨rfl, rfl, _, rfl⟩)) (hb hby hd) hr
  · show Q _ T.heap
    rw [eT]; exact hQ
  · show n0 ≤ T.heap.size
    rw [eT]; exact hs0
theorem r_retA {ft : FieldType} (X : Here p l e R s m args below meth c Z own nm bs ml (some ft) n0 T h k n) (ht : ft.isReference = true) (hd : decode bs pc = .ok (.areturn, 1)) {a : Addr} (hQ : Q (some (.ref a)) h) (hk : k ≤ kc) (hn : n ≤ ks) : Run p e below (Fnl s n0 kc ks Q) T (mkF m pc ls (.ref a :: st)) := by
  obtain ⟨⟨hx, hby, hml, hZ, hown, hnm, hret, hlk⟩, hs0, eT, locs, S, N⟩ := X
  obtain ⟨fs, hr, hrun, hended, hW, hsame⟩ := S.leave (v := some (.ref a)) (fun w => by rw [hret] at w; cases w)
  refine ⟨_, _, ?_, hrun, hended, _, _, rfl, ⟨?_, ?_, N⟩, ⟨_, rfl⟩, hW, hsame.mono hk hn⟩
  · exact retOut S hx hret (by cases ft <;> first | rfl | (exfalso; revert ht; decide)) (Or.inr (Or.inr (Or.inr (Or.inr ⟨rfl, ht, rfl⟩)))) (hb hby hd) hr
  · show Q _ T.heap
    rw [eT]; exact hQ
  · show n0 ≤ T.heap.size
    rw [eT]; exact hs0
theorem r_ret (X : Here p l e R s m args below meth c Z own nm bs ml none n0 T h k n) (hd : decode bs pc = .ok (.return_, 1)) (hQ : Q none h) (hk : k ≤ kc) (hn : n ≤ ks) : Run p e below (Fnl s n0 kc ks Q) T (mkF m pc ls []) := by
  obtain ⟨⟨hx, hby, hml, hZ, hown, hnm, hret, hlk⟩, hs0, eT, locs, S, N⟩ := X
  obtain ⟨fs, hr, hrun, hended, hW, hsame⟩ := S.leave (v := none) (fun _ => rfl)
  refine ⟨_, _, ?_, hrun, hended, _, _, rfl, ⟨?_, ?_, N⟩, ⟨_, rfl⟩, hW, hsame.mono hk hn⟩
  · exact S.returnOut hx hret (hb hby hd) hr
  · show Q _ T.heap
    rw [eT]; exact hQ
  · show n0 ≤ T.heap.size
    rw [eT]; exact hs0
/-- the array at a has N components of kind ty; the j-th holds the int f j -/
def Arf (Z : State) (h : Heap) (a : Addr) (ty : FieldType) (N : Nat) (f : Nat → Int32) : Prop := ∃ cl : Cell, Arr Z h a cl ty ∧ cl.slots.size = N ∧ ∀ j, j < N → cl.slots[j]? = some (.int (f j))
def upd (f : Nat → Int32) (i : Nat) (v : Int32) : Nat → Int32 := fun j => if j = i then v else f j
theorem upd_same (f : Nat → Int32) (i : Nat) (v : Int32) : upd f i v i = v := if_pos rfl
theorem upd_ne (f : Nat → Int32) {i j : Nat} (v : Int32) (q : j ≠ i) : upd f i v j = f j := if_neg q
theorem Arf.lt {a : Addr} {ty : FieldType} {N : Nat} {f : Nat → Int32} (A : Arf Z h a ty N f) : a < h.size := by obtain ⟨_, A, -⟩ := A; exact A.lt
theorem Arf.ext {a : Addr} {ty : FieldType} {N : Nat} {f : Nat → Int32} {h' : Heap} (A : Arf Z h a ty N f) (E : Ext h h') : Arf Z h' a ty N f := by obtain ⟨cl, A, r⟩ := A; exact ⟨cl, A.ext E, r⟩
theorem Arf.other {a b : Addr} {ty : FieldType} {N sl : Nat} {f : Nat → Int32} {h' : Heap} {v : Value} (A : Arf Z h b ty N f) (W : Wr h h' a sl v) (q : b ≠ a) : Arf Z h' b ty N f := by obtain ⟨cl, A, r⟩ := A; exact ⟨cl, A.other W q, r⟩
theorem Arf.keep {a : Addr} {ty : FieldType} {N : Nat} {f : Nat → Int32} {h' : Heap} {ws : List Addr} (A : Arf Z h a ty N f) (K : Keep h h' ws) (q : a ∉ ws) : Arf Z h' a ty N f := by obtain ⟨cl, A, r⟩ := A; exact ⟨cl, ⟨K.2.1 a cl A.1 q, A.2⟩, r⟩
theorem Arf.cast {a : Addr} {ty : FieldType} {N : Nat} {f g : Nat → Int32} (A : Arf Z h a ty N f) (q : ∀ j, j < N → f j = g j) : Arf Z h a ty N g := by obtain ⟨cl, A, S, H⟩ := A; exact ⟨cl, A, S, fun j hj => by rw [H j hj, q j hj]⟩
theorem Arf.set {a : Addr} {ty : FieldType} {N i : Nat} {f : Nat → Int32} {h' : Heap} {v : Int32} (A : Arf Z h a ty N f) (W : Wr h h' a i (.int v)) : Arf Z h' a ty N (upd f i v) := by
  obtain ⟨cl, A, S, H⟩ := A
  refine ⟨_, A.same W, by rw [sz_set]; exact S, fun j hj => ?_⟩
  by_cases q : j = i
  · subst q; rw [upd_same]; simp [Cell.setSlot, S, hj]
  · rw [upd_ne f v q]; simp only [Cell.setSlot]; rw [Array.getElem?_setIfInBounds_ne (Ne.symm q)]; exact H j hj
theorem ix_clamp {j : Int32} {i : Nat} (hj : j.toInt = i) : j.toNatClampNeg = i := by simp [Int32.toNatClampNeg, hj]
theorem ix_in {j : Int32} {i N : Nat} (hj : j.toInt = i) (hi : i < N) {cl : Cell} (S : cl.slots.size = N) : ¬ (j < 0 ∨ cl.slots.size ≤ j.toNatClampNeg) := by
  rw [ix_clamp hj, S, Int32.lt_iff_toInt_lt, hj]
  have e0 : (0 : Int32).toInt = 0 := rfl
  omega
theorem r_baload (X : Here p l e R s m args below meth c Z own nm bs ml rt n0 T h k n) {a : Addr} {N i : Nat} {f : Nat → Int32} {j v : Int32} (hd : decode bs pc = .ok (.baload, 1)) (A : Arf Z h a .byte N f) (hj : j.toInt = i) (hi : i < N) (hv : f i = v) (hp : pc + 1 = pc') (r : Run p e below F T (mkF m pc' ls (.int v :: st))) : Run p e below F T (mkF m pc ls (.int j :: .ref a :: st)) := by
  obtain ⟨⟨hx, hby, hml, hZ, hown, hnm, hret, hlk⟩, hs0, eT, locs, S, N⟩ := X
  subst hp hv
  obtain ⟨cl, A, SZ, H⟩ := A
  exact Run.of (fun t q => S.baloadBytes hx (j := j) (by rw [eT]; exact A.1) (State.isArrayOf_alike hZ.alike A.2.1) A.2.2 (ix_in hj hi SZ) (by rw [ix_clamp hj]; exact H i hi) (g := mkF m pc ls (.int j :: .ref a :: st)) rfl rfl (hb hby hd) t q) r
theorem r_caload (X : Here p l e R s m args below meth c Z own nm bs ml rt n0 T h k n) {a : Addr} {N i : Nat} {f : Nat → Int32} {j v : Int32} (hd : decode bs pc = .ok (.caload, 1)) (A : Arf Z h a .char N f) (hj : j.toInt = i) (hi : i < N) (hv : f i = v) (hp : pc + 1 = pc') (r : Run p e below F T (mkF m pc' ls (.int v :: st))) : Run p e below F T (mkF m pc ls (.int j :: .ref a :: st)) := by
  obtain ⟨⟨hx, hby, hml, hZ, hown, hnm, hret, hlk⟩, hs0, eT, locs, S, N⟩ := X
  subst hp hv
  obtain ⟨cl, A, SZ, H⟩ := A
  exact Run.of (fun t q => S.caload hx (j := j) (by rw [eT]; exact A.1) (State.isArrayOf_alike hZ.alike A.2.1) A.2.2 (ix_in hj hi SZ) (by rw [ix_clamp hj]; exact H i hi) (g := mkF m pc ls (.int j :: .ref a :: st)) rfl rfl (hb hby hd) t q) r
theorem r_iaload (X : Here p l e R s m args below meth c Z own nm bs ml rt n0 T h k n) {a : Addr} {N i : Nat} {f : Nat → Int32} {j v : Int32} (hd : decode bs pc = .ok (.iaload, 1)) (A : Arf Z h a .int N f) (hj : j.toInt = i) (hi : i < N) (hv : f i = v) (hp : pc + 1 = pc') (r : Run p e below F T (mkF m pc' ls (.int v :: st))) : Run p e below F T (mkF m pc ls (.int j :: .ref a :: st)) := by
  obtain ⟨⟨hx, hby, hml, hZ, hown, hnm, hret, hlk⟩, hs0, eT, locs, S, N⟩ := X
  subst hp hv
  obtain ⟨cl, A, SZ, H⟩ := A
  exact Run.of (fun t q => S.iaload hx (j := j) (by rw [eT]; exact A.1) (State.isArrayOf_alike hZ.alike A.2.1) A.2.2 (ix_in hj hi SZ) (by rw [ix_clamp hj]; exact H i hi) (g := mkF m pc ls (.int j :: .ref a :: st)) rfl rfl (hb hby hd) t q) r
theorem r_arraylength (X : Here p l e R s m args below meth c Z own nm bs ml rt n0 T h k n) {a : Addr} {ty : FieldType} {N : Nat} {f : Nat → Int32} {v : Int32} (hd : decode bs pc = .ok (.arraylength, 1)) (A : Arf Z h a ty N f) (hv : N.toInt32 = v) (hp : pc + 1 = pc') (r : Run p e below F T (mkF m pc' ls (.int v :: st))) : Run p e below F T (mkF m pc ls (.ref a :: st)) := by
  obtain ⟨⟨hx, hby, hml, hZ, hown, hnm, hret, hlk⟩, hs0, eT, locs, S, N⟩ := X
  subst hp hv
  obtain ⟨cl, A, SZ, H⟩ := A
  subst SZ
  exact Run.of (fun t q => S.arraylength hx (cell := cl) (by rw [eT]; exact A.1) (State.isArrayOf_alike hZ.alike A.2.1) (g := mkF m pc ls (.ref a :: st)) rfl rfl (hb hby hd) t q) r
theorem r_bastore (X : Here p l e R s m args below meth c Z own nm bs ml rt n0 T h k n) {a : Addr} {N i : Nat} {f : Nat → Int32} {j x v : Int32} (hd : decode bs pc = .ok (.bastore, 1)) (A : Arf Z h a .byte N f) (hj : j.toInt = i) (hi : i < N) (ge : n0 ≤ a) (hv : nar .byte x = v) (hp : pc + 1 = pc') (r : ∀ T' h', Here p l e R s m args below meth c Z own nm bs ml rt n0 T' h' k n → Wr h h' a i (.int v) → Arf Z h' a .byte N (upd f i v) → Run p e below F T' (mkF m pc' ls st)) : Run p e below F T (mkF m pc ls (.int x :: .int j :: .ref a :: st)) := by
  obtain ⟨⟨hx, hby, hml, hZ, hown, hnm, hret, hlk⟩, hs0, eT, locs, S, N_⟩ := X
  subst hp hv
  obtain ⟨cl, A, SZ, H⟩ := A
  obtain ⟨T', h', X', e', W, st'⟩ := stB S hx hZ eT A (j := j) (x := x) (ix_in hj hi SZ) (g := mkF m pc ls (.int x :: .int j :: .ref a :: st)) rfl rfl (hb hby hd)
  rw [ix_clamp hj] at W
  refine Run.of (fun t q => st' t q) (r T' h' ⟨⟨hx, hby, hml, hZ, hown, hnm, hret, hlk⟩, ?_, e', _, X', Fr.snoc X' N_ ge⟩ W (Arf.set ⟨cl, A, SZ, H⟩ W))
  rw [W.size]; exact hs0
theorem r_castore (X : Here p l e R s m args below meth c Z own nm bs ml rt n0 T h k n) {a : Addr} {N i : Nat} {f : Nat → Int32} {j x v : Int32} (hd : decode bs pc = .ok (.castore, 1)) (A : Arf Z h a .char N f) (hj : j.toInt = i) (hi : i < N) (ge : n0 ≤ a) (hv : nar .char x = v) (hp : pc + 1 = pc') (r : ∀ T' h', Here p l e R s m args below meth c Z own nm bs ml rt n0 T' h' k n → Wr h h' a i (.int v) → Arf Z h' a .char N (upd f i v) → Run p e below F T' (mkF m pc' ls st)) : Run p e below F T (mkF m pc ls (.int x :: .int j :: .ref a :: st)) := by
  obtain ⟨⟨hx, hby, hml, hZ, hown, hnm, hret, hlk⟩, hs0, eT, locs, S, N_⟩ := X
  subst hp hv
  obtain ⟨cl, A, SZ, H⟩ := A
  obtain ⟨T', h', X', e', W, st'⟩ := stC S hx hZ eT A (j := j) (x := x) (ix_in hj hi SZ) (g := mkF m pc ls (.int x :: .int j :: .ref a :: st)) rfl rfl (hb hby hd)
  rw [ix_clamp hj] at W
  refine Run.of (fun t q => st' t q) (r T' h' ⟨⟨hx, hby, hml, hZ, hown, hnm, hret, hlk⟩, ?_, e', _, X', Fr.snoc X' N_ ge⟩ W (Arf.set ⟨cl, A, SZ, H⟩ W))
  rw [W.size]; exact hs0
theorem r_iastore (X : Here p l e R s m args below meth c Z own nm bs ml rt n0 T h k n) {a : Addr} {N i : Nat} {f : Nat → Int32} {j x v : Int32} (hd : decode bs pc = .ok (.iastore, 1)) (A : Arf Z h a .int N f) (hj : j.toInt = i) (hi : i < N) (ge : n0 ≤ a) (hv : x = v) (hp : pc + 1 = pc') (r : ∀ T' h', Here p l e R s m args below meth c Z own nm bs ml rt n0 T' h' k n → Wr h h' a i (.int v) → Arf Z h' a .int N (upd f i v) → Run p e below F T' (mkF m pc' ls st)) : Run p e below F T (mkF m pc ls (.int x :: .int j :: .ref a :: st)) := by
  obtain ⟨⟨hx, hby, hml, hZ, hown, hnm, hret, hlk⟩, hs0, eT, locs, S, N_⟩ := X
  subst hp hv
  obtain ⟨cl, A, SZ, H⟩ := A
  obtain ⟨T', h', X', e', W, st'⟩ := stI S hx hZ eT A (j := j) (x := x) (ix_in hj hi SZ) (g := mkF m pc ls (.int x :: .int j :: .ref a :: st)) rfl rfl (hb hby hd)
  rw [ix_clamp hj] at W
  refine Run.of (fun t q => st' t q) (r T' h' ⟨⟨hx, hby, hml, hZ, hown, hnm, hret, hlk⟩, ?_, e', _, X', Fr.snoc X' N_ ge⟩ W (Arf.set ⟨cl, A, SZ, H⟩ W))
  rw [W.size]; exact hs0
theorem r_newarray (X : Here p l e R s m args below meth c Z own nm bs ml rt n0 T h k n) {aty : ArrayType} {z : Int32} {N : Nat} (hd : decode bs pc = .ok (.newarray aty, 2)) (w : (Jvm.Cond.arrayClass (newarray.typeOf aty)).before a0 Z = true) (hz : z.toInt = N) (hdf : defaultValue (newarray.typeOf aty) = .int 0) (hb8 : N * 8 ≤ 536870912) (hc : k + 1 ≤ R.cells) (hl : n + N ≤ R.slots) (hp : pc + 2 = pc') (r : ∀ T' h' b, Here p l e R s m args below meth c Z own nm bs ml rt n0 T' h' (k + 1) (n + N) → b = h.size → n0 ≤ b → Ext h h' → Arf Z h' b (newarray.typeOf aty) N (fun _ => 0) → Run p e below F T' (mkF m pc' ls (.ref b :: st))) : Run p e below F T (mkF m pc ls (.int z :: st)) := by
  obtain ⟨⟨hx, hby, hml, hZ, hown, hnm, hret, hlk⟩, hs0, eT, locs, S, N_⟩ := X
  subst hp
  have hneg : ¬ z < 0 := by
    rw [Int32.lt_iff_toInt_lt, hz]
    have e0 : (0 : Int32).toInt = 0 := rfl
    omega
  obtain ⟨T', h', cA, X', e', E, A, st'⟩ := newP S hx hZ w eT (g := mkF m pc ls (.int z :: st)) rfl (hb hby hd) rfl hneg (cap := N) (Nat.le_of_eq (ix_clamp hz)) hb8 hc hl
  refine Run.of (fun t q => st' t q) (r T' h' h.size ⟨⟨hx, hby, hml, hZ, hown, hnm, hret, hlk⟩, Nat.le_trans hs0 E.1, e', _, X', N_⟩ rfl hs0 E ⟨_, A, (sz_new _ _ _).trans (ix_clamp hz), fun j hj => ?_⟩)
  simp [newA, ix_clamp hz, hj, hdf]
theorem r_new (X : Here p l e R s m args below meth c Z own nm bs ml rt n0 T h k n) {C : String} {i sz : Nat} (hd : decode bs pc = .ok (.new i, 3)) (w : (Jvm.Cond.classLink own i C).before a0 Z = true) (wi : (Jvm.Cond.instantiable C sz).before a0 Z = true) (wz : (Jvm.Cond.initialized C).before a0 Z = true) (hc : k + 1 ≤ R.cells) (hl : n + sz ≤ R.slots) (hp : pc + 3 = pc') (r : ∀ T' h' b, Here p l e R s m args below meth c Z own nm bs ml rt n0 T' h' (k + 1) (n + sz) → b = h.size → n0 ≤ b → Ext h h' → Exa Z h' b C → (∀ {O f d : String} {ty : FieldType}, Laid Z a0 C O f d → parseFieldDescriptor d = some ty → Fld Z h' b O f d (defaultValue ty)) → Run p e below F T' (mkF m pc' ls (.ref b :: st))) : Run p e below F T (mkF m pc ls st) := by
  obtain ⟨⟨hx, hby, hml, hZ, hown, hnm, hret, hlk⟩, hs0, eT, locs, S, N⟩ := X
  subst hp
  obtain ⟨T', h', X', e', E, A, D, -, st'⟩ := newO S hx hZ hown w wi wz eT (g := mkF m pc ls st) rfl (hb hby hd) hc hl
  exact Run.of (fun t q => st' t q) (r T' h' h.size ⟨⟨hx, hby, hml, hZ, hown, hnm, hret, hlk⟩, Nat.le_trans hs0 E.1, e', _, X', N⟩ rfl hs0 E A D)
theorem r_getfield (X : Here p l e R s m args below meth c Z own nm bs ml rt n0 T h k n) {R0 f d : String} {i : Nat} {a : Addr} {v : Value} (hd : decode bs pc = .ok (.getfield i, 3)) (w : (Jvm.Cond.fieldLink own i R0 f d).before a0 Z = true) (Ff : Fld Z h a R0 f d v) (hp : pc + 3 = pc') (r : ∀ T', Here p l e R s m args below meth c Z own nm bs ml rt n0 T' h k n → Run p e below F T' (mkF m pc' ls (v :: st))) : Run p e below F T (mkF m pc ls (.ref a :: st)) := by
  obtain ⟨⟨hx, hby, hml, hZ, hown, hnm, hret, hlk⟩, hs0, eT, locs, S, N⟩ := X
  subst hp
  obtain ⟨T', X', e', st'⟩ := getF S hx hZ hown (host := "") (Or.inl w) Via.refl eT Ff (g := mkF m pc ls (.ref a :: st)) rfl rfl (hb hby hd)
  exact Run.of (fun t q => st' t q) (r T' ⟨⟨hx, hby, hml, hZ, hown, hnm, hret, hlk⟩, hs0, e', _, X', N⟩)
theorem r_putfield (X : Here p l e R s m args below meth c Z own nm bs ml rt n0 T h k n) {R0 f d C : String} {i kk : Nat} {a : Addr} {v old : Value} {ty : FieldType} (hd : decode bs pc = .ok (.putfield i, 3)) (w : (Jvm.Cond.fieldLink own i R0 f d).before a0 Z = true) (Ff : Fld Z h a R0 f d old) (E : Exa Z h a C) (L : (Jvm.Cond.lays C R0 f d).before a0 Z = true ∨ ((Jvm.Cond.laysFinal C R0 f d).before a0 Z = true ∧ own = R0 ∧ nm = "<init>")) (wi : (Jvm.Cond.instantiable C kk).before a0 Z = true) (hty : parseFieldDescriptor d = some ty) (hn : narrow ty v = v) (hf : fits ty v = true) (ge : n0 ≤ a) (hp : pc + 3 = pc') (r : ∀ T' h', Here p l e R s m args below meth c Z own nm bs ml rt n0 T' h' k n → Wr h h' a (Jvm.RoadKit.slotOf Z R0 f d) v → Run p e below F T' (mkF m pc' ls st)) : Run p e below F T (mkF m pc ls (v :: .ref a :: st)) := by
  obtain ⟨⟨hx, hby, hml, hZ, hown, hnm, hret, hlk⟩, hs0, eT, locs, S, N⟩ := X
  subst hp
  obtain ⟨T', h', X', e', W, st'⟩ := putF S hx hZ hown (host := "") (Or.inl w) Via.refl eT Ff E (L.imp id fun q => ⟨q.1, q.2.1, hnm.trans q.2.2⟩) wi hty hn hf (g := mkF m pc ls (v :: .ref a :: st)) rfl rfl (hb hby hd)
  refine Run.of (fun t q => st' t q) (r T' h' ⟨⟨hx, hby, hml, hZ, hown, hnm, hret, hlk⟩, ?_, e', _, X', Fr.snoc X' N ge⟩ W)
  rw [W.size]; exact hs0
theorem r_initObject (X : Here p l e R s m args below meth c Z own nm bs ml rt n0 T h k n) {i : Nat} {a : Addr} (hd : decode bs pc = .ok (.invokespecial i, 3)) (w1 : (Jvm.Cond.methodLink own i Lib.objectInit).before a0 Z = true) (w2 : (Jvm.Cond.instanceMethod Lib.objectInit).before a0 Z = true) (w3 : (Jvm.Cond.code Lib.objectInit ⟨#[0xb1]⟩ 1 none).before a0 Z = true) (hsz : ls.size = ml) (hf : 1 ≤ R.frames) {W : Nat} (hW : (st.map fun v => v.category).sum = W) (hl : W + 12 ≤ R.locals) (hp : pc + 3 = pc') (r : ∀ T', Here p l e R s m args below meth c Z own nm bs ml rt n0 T' h k n → Run p e below F T' (mkF m pc' ls st)) : Run p e below F T (mkF m pc ls (.ref a :: st)) := by
  obtain ⟨⟨hx, hby, hml, hZ, hown, hnm, hret, hlk⟩, hs0, eT, locs, S, N⟩ := X
  subst hp
  obtain ⟨T', X', e', st'⟩ := initO S hx hZ hown w1 w2 w3 eT (g := mkF m pc ls (.ref a :: st)) rfl (by rw [hml]; exact hsz) rfl (hb hby hd) hf (W := W) (by show 2 * 0 + _ ≤ _; rw [hW]; omega) hl
  exact Run.of (fun t q => st' t q) (r T' ⟨⟨hx, hby, hml, hZ, hown, hnm, hret, hlk⟩, hs0, e', _, X', N⟩)
theorem r_callS (X : Here p l e R s m args below meth c Z own nm bs ml rt n0 T h k n) {y : MethodName} {i : Nat} {bs' : ByteArray} {ml' : Nat} {rt' : Option FieldType} {rm : Room} {Q' : Option Value → Heap → Prop} {ps : List FieldType} {rr : Option FieldType} {argsL rest : List Value} {W : Nat} (hd : decode bs pc = .ok (.invokestatic i, 3)) (C : Con l Z y bs' ml' rt' rm argsL.toArray h n0 rm.cells rm.slots Q') (w1 : (Jvm.Cond.methodLink own i y).before a0 Z = true) (w2 : (Jvm.Cond.static y).before a0 Z = true) (w3 : (Jvm.Cond.initialized y.cls).before a0 Z = true) (w4 : (Jvm.Cond.code y bs' ml' rt').before a0 Z = true) (hy : y.cls ≠ "java/lang/invoke/MethodHandle" ∧ y.cls ≠ "java/lang/invoke/VarHandle") (hst : st = argsL.reverse ++ rest) (hsz : ls.size = ml) (hpd : parseMethodDescriptor y.desc = some ⟨ps, rr⟩) (hlen : argsL.length = ps.length) (hW : (rest.map fun v => v.category).sum = W) (hf : rm.frames + 1 ≤ R.frames) (hl : W + (ml' + 11) + rm.locals ≤ R.locals) (hc : k + rm.cells ≤ R.cells) (hs : n + rm.slots ≤ R.slots) (hp : pc + 3 = pc') (r : ∀ v T' h', Here p l e R s m args below meth c Z own nm bs ml rt n0 T' h' (k + rm.cells) (n + rm.slots) → Q' v h' → Run p e below F T' (mkF m pc' ls (v.toList ++ rest))) : Run p e below F T (mkF m pc ls st) := by
  obtain ⟨⟨hx, hby, hml, hZ, hown, hnm, hret, hlk⟩, hs0, eT, locs, S, N⟩ := X
  subst hp hst
  obtain ⟨v, _, B, -, X', ⟨L, hQ, l1, l2, l3⟩, st'⟩ := Jvm.LawKit.callS S hx (y := y) hown (mvT hZ w1) (mvT hZ w2) (mvT hZ w3) (mvT hZ w4) hy (backOf (W := W) (Q := fun v hh L => Q' v hh ∧ n0 ≤ hh.size ∧ Fr n0 L) (C []) hZ w4 w3 hf hl) (g := mkF m pc ls (argsL.reverse ++ rest)) rfl (by rw [hml]; exact hsz) (argsL := argsL) (rest := rest) (lenOf hpd hlen) rfl (by show 2 * 0 + _ ≤ _; rw [hW]; omega) (hb hby hd) (fun _ _ => ⟨rfl, eT, hc, hs⟩)
  obtain ⟨hQ, hs1, hF⟩ := hQ
  have X'' : Here p l e R s m args below meth c Z own nm bs ml rt n0 B.U B.U.heap (k + rm.cells) (n + rm.slots) := ⟨⟨hx, hby, hml, hZ, hown, hnm, hret, hlk⟩, hs1, rfl, B.locs, by rw [l2, l3] at X'; exact X', by rw [l1]; exact Fr.app N hF⟩
  exact Run.of (fun t q => st' t q) (r v B.U B.U.heap X'' hQ)
theorem r_init (X : Here p l e R s m args below meth c Z own nm bs ml rt n0 T h k n) {y : MethodName} {i : Nat} {bs' : ByteArray} {ml' : Nat} {rm : Room} {Q' : Option Value → Heap → Prop} {ps : List FieldType} {rr : Option FieldType} {argsL rest : List Value} {W : Nat} {a : Addr} (hd : decode bs pc = .ok (.invokespecial i, 3)) (C : Con l Z y bs' ml' none rm (.ref a :: argsL).toArray h n0 rm.cells rm.slots Q') (hy1 : y.name = "<init>") (w1 : (Jvm.Cond.methodLink own i y).before a0 Z = true) (w2 : (Jvm.Cond.instanceMethod y).before a0 Z = true) (w3 : (Jvm.Cond.initialized y.cls).before a0 Z = true) (w4 : (Jvm.Cond.code y bs' ml' none).before a0 Z = true) (hy : y.cls ≠ "java/lang/invoke/MethodHandle" ∧ y.cls ≠ "java/lang/invoke/VarHandle") (hst : st = argsL.reverse ++ .ref a :: rest) (hsz : ls.size = ml) (hpd : parseMethodDescriptor y.desc = some ⟨ps, rr⟩) (hlen : argsL.length = ps.length) (hW : (rest.map fun v => v.category).sum = W) (hf : rm.frames + 1 ≤ R.frames) (hl : W + (ml' + 11) + rm.locals ≤ R.locals) (hc : k + rm.cells ≤ R.cells) (hs : n + rm.slots ≤ R.slots) (hp : pc + 3 = pc') (r : ∀ v T' h', Here p l e R s m args below meth c Z own nm bs ml rt n0 T' h' (k + rm.cells) (n + rm.slots) → Q' v h' → Run p e below F T' (mkF m pc' ls (v.toList ++ rest))) : Run p e below F T (mkF m pc ls st) := by
  obtain ⟨⟨hx, hby, hml, hZ, hown, hnm, hret, hlk⟩, hs0, eT, locs, S, N⟩ := X
  subst hp hst
  obtain ⟨v, _, B, -, X', ⟨L, hQ, l1, l2, l3⟩, st'⟩ := S.specialBack hx (y := y) hy1 hown (mvT hZ w1) (mvT hZ w2) (mvT hZ w4) hy (backOf (W := W) (Q := fun v hh L => Q' v hh ∧ n0 ≤ hh.size ∧ Fr n0 L) (C []) hZ w4 w3 hf hl) (g := mkF m pc ls (argsL.reverse ++ .ref a :: rest)) rfl (by rw [hml]; exact hsz) (Steps.refl _) (a := a) (argsL := argsL) (rest := rest) (lenOf hpd hlen) rfl (by show 2 * 0 + _ ≤ _; rw [hW]; omega) (hb hby hd) (fun _ _ => ⟨rfl, eT, hc, hs⟩)
  obtain ⟨hQ, hs1, hF⟩ := hQ
  have X'' : Here p l e R s m args below meth c Z own nm bs ml rt n0 B.U B.U.heap (k + rm.cells) (n + rm.slots) := ⟨⟨hx, hby, hml, hZ, hown, hnm, hret, hlk⟩, hs1, rfl, B.locs, by rw [l2, l3] at X'; exact X', by rw [l1]; exact Fr.app N hF⟩
  exact Run.of (fun t q => st'.trans q) (r v B.U B.U.heap X'' hQ)
theorem r_callV (X : Here p l e R s m args below meth c Z own nm bs ml rt n0 T h k n) {y : MethodName} {i : Nat} {bs' : ByteArray} {ml' : Nat} {rt' : Option FieldType} {rm : Room} {Q' : Option Value → Heap → Prop} {ps : List FieldType} {rr : Option FieldType} {argsL rest : List Value} {W : Nat} {C0 : String} {a : Addr} (hd : decode bs pc = .ok (.invokevirtual i, 3)) (C : Con l Z y bs' ml' rt' rm (.ref a :: argsL).toArray h n0 rm.cells rm.slots Q') (E : Exa Z h a C0) (w1 : (Jvm.Cond.methodLink own i y).before a0 Z = true) (w2 : (Jvm.Cond.declares y).before a0 Z = true) (w5 : (Jvm.Cond.selects C0 y y).before a0 Z = true) (w6 : (Jvm.Cond.instanceMethod y).before a0 Z = true) (w3 : (Jvm.Cond.initialized y.cls).before a0 Z = true) (w4 : (Jvm.Cond.code y bs' ml' rt').before a0 Z = true) (hy : y.cls ≠ "java/lang/invoke/MethodHandle" ∧ y.cls ≠ "java/lang/invoke/VarHandle") (hst : st = argsL.reverse ++ .ref a :: rest) (hsz : ls.size = ml) (hpd : parseMethodDescriptor y.desc = some ⟨ps, rr⟩) (hlen : argsL.length = ps.length) (hW : (rest.map fun v => v.category).sum = W) (hf : rm.frames + 1 ≤ R.frames) (hl : W + (ml' + 11) + rm.locals ≤ R.locals) (hc : k + rm.cells ≤ R.cells) (hs : n + rm.slots ≤ R.slots) (hp : pc + 3 = pc') (r : ∀ v T' h', Here p l e R s m args below meth c Z own nm bs ml rt n0 T' h' (k + rm.cells) (n + rm.slots) → Q' v h' → Run p e below F T' (mkF m pc' ls (v.toList ++ rest))) : Run p e below F T (mkF m pc ls st) := by
  obtain ⟨⟨hx, hby, hml, hZ, hown, hnm, hret, hlk⟩, hs0, eT, locs, S, N⟩ := X
  subst hp hst
  obtain ⟨cq, kq, qa, qb, qc⟩ := isOf hZ eT E
  obtain ⟨v, _, B, -, X', ⟨L, hQ, l1, l2, l3⟩, st'⟩ := S.virtualBack hx (y := y) (z := y) hown (mvT hZ w1) (mvT hZ w2) (notFace_of_selects (args := #[]) (mvT hZ w5)) (mvT hZ w5) (mvT hZ w6) hy (backOf (W := W) (Q := fun v hh L => Q' v hh ∧ n0 ≤ hh.size ∧ Fr n0 L) (C []) hZ w4 w3 hf hl) qa qc (g := mkF m pc ls (argsL.reverse ++ .ref a :: rest)) rfl (by rw [hml]; exact hsz) (Steps.refl _) (argsL := argsL) (rest := rest) (lenOf hpd hlen) rfl (by show 2 * 0 + _ ≤ _; rw [hW]; omega) (hb hby hd) (fun _ _ => ⟨rfl, eT, hc, hs⟩)
  obtain ⟨hQ, hs1, hF⟩ := hQ
  have X'' : Here p l e R s m args below meth c Z own nm bs ml rt n0 B.U B.U.heap (k + rm.cells) (n + rm.slots) := ⟨⟨hx, hby, hml, hZ, hown, hnm, hret, hlk⟩, hs1, rfl, B.locs, by rw [l2, l3] at X'; exact X', by rw [l1]; exact Fr.app N hF⟩
  exact Run.of (fun t q => st'.trans q) (r v B.U B.U.heap X'' hQ)
end Own
/-- an int by its bits' number -/
theorem n_bits (x : Int32) : x.toInt = ((x.toBitVec.toNat : Int) + 2147483648) % 4294967296 - 2147483648 := by
  have e : x.toInt = x.toBitVec.toInt := rfl
  have hb := x.toBitVec.isLt
  rw [e, BitVec.toInt_eq_toNat_cond]
  split <;> omega
theorem n_i2b (x : Int32) : (x.toInt8.toInt32).toInt = (x.toInt + 128) % 256 - 128 := by
  rw [Int8.toInt_toInt32, Int32.toInt_toInt8, Int.bmod_def]; omega
theorem n_i2c (x : Int32) : (x.toUInt32.toUInt16.toUInt32.toInt32).toInt = x.toInt % 65536 := by
  have h : (x.toUInt32.toUInt16.toUInt32.toInt32).toBitVec.toNat = x.toBitVec.toNat % 65536 := by
    show ((x.toBitVec.setWidth 16).setWidth 32).toNat = _
    rw [BitVec.toNat_setWidth, BitVec.toNat_setWidth]; omega
  have h1 := n_bits (x.toUInt32.toUInt16.toUInt32.toInt32)
  have h2 := n_bits x
  have h3 := x.toBitVec.isLt
  omega
theorem n_narC (x : Int32) : nar .char x.toUInt32.toUInt16.toUInt32.toInt32 = x.toUInt32.toUInt16.toUInt32.toInt32 := by
  apply Int32.toInt_inj.mp
  show (Int32.toUInt32 _).toUInt16.toUInt32.toInt32.toInt = _
  rw [n_i2c, n_i2c]; omega
theorem n_narB (x : Int32) : nar .byte x.toInt8.toInt32 = x.toInt8.toInt32 := by
  apply Int32.toInt_inj.mp
  show (Int32.toInt8 _).toInt32.toInt = _
  rw [n_i2b, n_i2b]; omega
theorem n_add {x y : Int32} {a b : Int} (hx : x.toInt = a) (hy : y.toInt = b) (h1 : -2147483648 ≤ a + b) (h2 : a + b ≤ 2147483647) : (x + y).toInt = a + b := by
  subst hx hy; exact Jvm.Kit.i32_add (by omega) (by omega)
theorem n_sub {x y : Int32} {a b : Int} (hx : x.toInt = a) (hy : y.toInt = b) (h1 : -2147483648 ≤ a - b) (h2 : a - b ≤ 2147483647) : (x - y).toInt = a - b := by
  subst hx hy; exact Jvm.Kit.i32_sub (by omega) (by omega)
theorem n_nat {x : Int32} {n : Nat} (h : x.toInt = n) : x = Int32.ofNat n := by
  have a := x.toInt_lt
  exact Int32.toInt_inj.mp (by rw [h, Int32.toInt_ofNat_of_lt (by omega)])
theorem n_max (x : Int32) : 0 ≤ (x &&& (2147483647 : Int32)).toInt := by
  have : (x &&& (2147483647 : Int32)).toInt = x.toInt % 2 ^ 31 := Jvm.Kit.i32_mask x 2147483647 (k := 31) (by decide) (by decide)
  omega
theorem n_bitsL (x : Int64) : x.toInt = ((x.toBitVec.toNat : Int) + 9223372036854775808) % 18446744073709551616 - 9223372036854775808 := by
  have e : x.toInt = x.toBitVec.toInt := rfl
  have hb := x.toBitVec.isLt
  rw [e, BitVec.toInt_eq_toNat_cond]
  split <;> omega
theorem n_ushr (x y : Int32) (s : Nat) (hs : ((y &&& 31).toUInt32).toNat = s) (h1 : s < 32) : ((XT.ushr x y).toBitVec.toNat : Nat) = x.toBitVec.toNat / 2 ^ s := by
  show ((x.toUInt32 >>> (y &&& 31).toUInt32).toInt32).toBitVec.toNat = _
  simp only [UInt32.toBitVec_toInt32, UInt32.toBitVec_shiftRight, Int32.toBitVec_toUInt32]
  simp [BitVec.toNat_ushiftRight, Nat.shiftRight_eq_div_pow]
  have h2 : y.toBitVec.toNat &&& 31 = s := hs
  rw [h2, Nat.mod_eq_of_lt h1]
theorem n_natL (x : Int64) (h : 0 ≤ x.toInt) : (x.toBitVec.toNat : Int) = x.toInt := by
  have := n_bitsL x; have hb := x.toBitVec.isLt; omega
theorem n_cmp (x y : Int64) : (XT.cmpL x y).toInt = 0 ↔ x.toInt = y.toInt := by
  unfold XT.cmpL
  by_cases h : y < x
  · rw [if_pos h]
    rw [Int64.lt_iff_toInt_lt] at h
    constructor
    · intro q; exact absurd q (by decide)
    · intro q; omega
  · rw [if_neg h]
    by_cases h2 : x = y
    · rw [if_pos h2, h2]; exact ⟨fun _ => rfl, fun _ => rfl⟩
    · rw [if_neg h2]
      constructor
      · intro q; exact absurd q (by decide)
      · intro q; exact absurd (Int64.toInt_inj.mp q) h2
theorem n_i2lN (y : Int32) (s : Nat) (hs : y.toInt = s) : y.toInt64.toBitVec.toNat = s := by
  have h1 : y.toInt64.toInt = s := by rw [Int32.toInt_toInt64, hs]
  have := n_natL y.toInt64 (by omega)
  omega
theorem n_sh63 (y : Int32) (s : Nat) (hs : y.toInt = s) (h : s < 64) : (y.toInt64 &&& 63).toBitVec.toNat = s := by
  have h1 := n_i2lN y s hs
  have h2 : (y.toInt64 &&& (63 : Int64)).toBitVec.toNat = y.toInt64.toBitVec.toNat &&& 63 := by rw [Int64.toBitVec_and, BitVec.toNat_and]; rfl
  rw [h2, h1, show (63 : Nat) = 2 ^ 6 - 1 from rfl, Nat.and_two_pow_sub_one_eq_mod]
  omega
theorem n_ushrL (x : Int64) (y : Int32) (s : Nat) (hs : y.toInt = s) (h : s < 64) : (XT.ushrL x y).toBitVec.toNat = x.toBitVec.toNat / 2 ^ s := by
  have h1 := n_sh63 y s hs h
  have h2 : (y.toInt64.toUInt64 &&& Int64.toUInt64 63).toNat = s := h1
  show ((x.toUInt64 >>> (y.toInt64.toUInt64 &&& Int64.toUInt64 63)).toInt64).toBitVec.toNat = _
  simp only [UInt64.toBitVec_toInt64, UInt64.toBitVec_shiftRight, Int64.toBitVec_toUInt64]
  simp [BitVec.toNat_ushiftRight, Nat.shiftRight_eq_div_pow]
  have h3 : (y.toInt64.toUInt64 &&& Int64.toUInt64 63).toBitVec.toNat = s := h2
  simp at h3
  rw [h3, Nat.mod_eq_of_lt h]
theorem n_shlL (x : Int64) (y : Int32) (s : Nat) (hs : y.toInt = s) (h : s < 64) : (x <<< (y.toInt64 &&& 63)).toBitVec.toNat = (x.toBitVec.toNat * 2 ^ s) % 2 ^ 64 := by
  have h1 := n_sh63 y s hs h
  have h2 : (((y.toInt64 &&& 63) : Int64).toBitVec.smod 64).toNat = s := by
    have e : ((y.toInt64 &&& 63) : Int64).toBitVec = BitVec.ofNat 64 s := by
      apply BitVec.eq_of_toNat_eq; rw [h1, BitVec.toNat_ofNat, Nat.mod_eq_of_lt (by omega)]
    rw [e]
    have t : ∀ k : Fin 64, ((BitVec.ofNat 64 k.val).smod 64).toNat = k.val := by decide +kernel
    exact t ⟨s, h⟩
  show (x.toBitVec <<< (((y.toInt64 &&& 63) : Int64).toBitVec.smod 64)).toNat = _
  rw [BitVec.shiftLeft_eq', BitVec.toNat_shiftLeft, h2, Nat.shiftLeft_eq]
theorem n_orL (x y : Int64) (k a b : Nat) (hx : x.toBitVec.toNat = a) (ha : a < 2 ^ k) (hy : y.toBitVec.toNat = b * 2 ^ k) : (x ||| y).toBitVec.toNat = a + b * 2 ^ k := by
  rw [Int64.toBitVec_or, BitVec.toNat_or, hx, hy, Nat.or_comm, ← Nat.shiftLeft_eq, ← Nat.shiftLeft_add_eq_or_of_lt ha]; omega
theorem n_m128 (x : Int64) : (x &&& (-128 : Int64)).toBitVec.toNat = x.toBitVec.toNat / 128 * 128 := by
  have e : (-128 : Int64).toBitVec = (BitVec.allOnes 64) <<< 7 := by decide
  rw [Int64.toBitVec_and, e, ← BitVec.shiftLeft_ushiftRight, BitVec.toNat_shiftLeft, BitVec.toNat_ushiftRight, Nat.shiftLeft_eq, Nat.shiftRight_eq_div_pow]
  have := x.toBitVec.isLt
  omega
theorem n_or128 (x : Int64) : ((x ||| (128 : Int64)).toBitVec.toNat) % 256 = x.toBitVec.toNat % 128 + 128 := by
  have e : (128 : Int64).toBitVec.toNat = 128 := by decide
  rw [Int64.toBitVec_or, BitVec.toNat_or, e]
  have h : ∀ a : Nat, (a ||| 128) % 256 = a % 128 + 128 := by
    intro a
    have h1 : (a ||| 128) % 2 ^ 8 = (a % 2 ^ 8) ||| (128 % 2 ^ 8) := Nat.or_mod_two_pow
    have h2 : ∀ c : Fin 256, (c.val ||| 128) = c.val % 128 + 128 := by decide +kernel
    have h3 := h2 ⟨a % 256, by omega⟩
    simp only at h3
    rw [show (256 : Nat) = 2 ^ 8 from rfl, h1, show (128 : Nat) % 2 ^ 8 = 128 from rfl, show (2 : Nat) ^ 8 = 256 from rfl, h3]; omega
  exact h _
/-- (int) of a long, by its bits -/
theorem n_l2i (x : Int64) : x.toInt32.toBitVec.toNat = x.toBitVec.toNat % 4294967296 := by
  show (x.toBitVec.signExtend 32).toNat = _
  rw [BitVec.signExtend_eq_setWidth_of_le _ (by decide), BitVec.toNat_setWidth]
def own_b (x : Int32) : Int32 := x.toInt8.toInt32
theorem own_nb (x : Int32) : nar .byte (own_b x) = own_b x := n_narB x
theorem own_bi (x : Int32) : (own_b x).toInt = (x.toInt + 128) % 256 - 128 := n_i2b x
/-- n groups of seven bits hold V, and no fewer -/
def own_N (V n : Nat) : Prop := V < 2 ^ (7 * n) ∧ (n = 1 ∨ 2 ^ (7 * (n - 1)) ≤ V)
theorem own_N_uniq {V n k : Nat} (h1 : own_N V n) (h2 : own_N V k) (hn : 1 ≤ n) (hk : 1 ≤ k) : n = k := by
  have key : ∀ a b : Nat, own_N V a → own_N V b → 1 ≤ a → a < b → False := by
    intro a b ha hb h1 hab
    rcases hb.2 with q | q
    · omega
    · have h3 : 2 ^ (7 * a) ≤ 2 ^ (7 * (b - 1)) := Nat.pow_le_pow_right (by decide) (by omega)
      have h4 := ha.1
      omega
  rcases Nat.lt_trichotomy n k with q | q | q
  · exact (key n k h1 h2 hn q).elim
  · exact q
  · exact (key k n h2 h1 hk q).elim
theorem own_u (q : Int64) (V : Nat) (hV : q.toInt = V) (y : Int32) (s : Nat) (hs : y.toInt = s) (h : s < 64) : (XT.ushrL q y).toInt = ((V / 2 ^ s : Nat) : Int) := by
  have h1 := n_ushrL q y s hs h
  have h2 := n_natL q (by omega)
  have h3 : q.toBitVec.toNat = V := by omega
  have h4 := n_bitsL (XT.ushrL q y)
  have h5 : V / 2 ^ s ≤ V := Nat.div_le_self _ _
  have h6 := q.toInt_lt
  rw [h1, h3] at h4
  generalize V / 2 ^ s = D at *
  omega
theorem own_c (q : Int64) (V : Nat) (hV : q.toInt = V) (y : Int32) (s : Nat) (hs : y.toInt = s) (h : s < 64) : (XT.cmpL (XT.ushrL q y) (0 : Int64)).toInt = 0 ↔ V / 2 ^ s = 0 := by
  rw [n_cmp, own_u q V hV y s hs h, show (0 : Int64).toInt = 0 from rfl]; omega
theorem own_m (q : Int64) (V : Nat) (hV : q.toInt = V) : (XT.cmpL (q &&& (-128 : Int64)) (0 : Int64)).toInt = 0 ↔ V < 128 := by
  have h2 := n_natL q (by omega)
  have h1 := n_m128 q
  have h3 := n_bitsL (q &&& (-128 : Int64))
  have h4 := q.toInt_lt
  rw [n_cmp, show (0 : Int64).toInt = 0 from rfl]; omega
theorem own_s1 (q : Int64) (V : Nat) (hV : q.toInt = V) : (own_b (q ||| (128 : Int64)).toInt32).toInt = ((V % 128 : Nat) : Int) - 128 := by
  have h1 := n_or128 q
  have h2 := n_natL q (by omega)
  have h3 := n_l2i (q ||| (128 : Int64))
  have h4 := n_bits (q ||| (128 : Int64)).toInt32
  rw [own_bi]; omega
theorem own_s2 (q : Int64) (V : Nat) (hV : q.toInt = V) (h : V < 128) : (own_b q.toInt32).toInt = V := by
  have h2 := n_natL q (by omega)
  have h3 := n_l2i q
  have h4 := n_bits q.toInt32
  rw [own_bi]; omega
/-- k groups are written from i on -/
def own_G (V i : Nat) (f g : Nat → Int32) (k : Nat) : Prop := (∀ j, j < k → (g (i + j)).toInt = ((V / 2 ^ (7 * j) % 128 : Nat) : Int) - 128) ∧ ∀ j, (j < i ∨ i + k ≤ j) → g j = f j
theorem own_G_step {V i k : Nat} {f g : Nat → Int32} {x : Int32} (H : own_G V i f g k) (hx : x.toInt = ((V / 2 ^ (7 * k) % 128 : Nat) : Int) - 128) : own_G V i f (upd g (i + k) x) (k + 1) := by
  refine ⟨fun j h1 => ?_, fun j h1 => ?_⟩
  · by_cases e : j = k
    · subst e; rw [upd_same, hx]
    · rw [upd_ne _ _ (by omega)]; exact H.1 j (by omega)
  · rw [upd_ne _ _ (by omega)]; exact H.2 j (by omega)
/-- what the array holds at the end: n groups from i on, the last without the mark -/
def own_E (V i : Nat) (f g : Nat → Int32) (n : Nat) : Prop := (∀ j, j + 1 < n → (g (i + j)).toInt = ((V / 2 ^ (7 * j) % 128 : Nat) : Int) - 128) ∧ (g (i + (n - 1))).toInt = ((V / 2 ^ (7 * (n - 1)) % 128 : Nat) : Int) ∧ ∀ j, (j < i ∨ i + n ≤ j) → g j = f j
theorem own_G_end {V i k : Nat} {f g : Nat → Int32} {x : Int32} (H : own_G V i f g k) (hx : x.toInt = ((V / 2 ^ (7 * k) : Nat) : Int)) (hs : V / 2 ^ (7 * k) < 128) : own_E V i f (upd g (i + k) x) (k + 1) := by
  refine ⟨fun j h1 => ?_, ?_, fun j h1 => ?_⟩
  · rw [upd_ne _ _ (by omega)]; exact H.1 j (by omega)
  · rw [show k + 1 - 1 = k by omega, upd_same, hx, Nat.mod_eq_of_lt hs]
  · rw [upd_ne _ _ (by omega)]; exact H.2 j (by omega)
theorem own_p (V k : Nat) : V / 2 ^ (7 * k) / 2 ^ 7 = V / 2 ^ (7 * (k + 1)) := by rw [Nat.div_div_eq_div_mul, ← Nat.pow_add, Nat.mul_add]
theorem own_lt (V k : Nat) (h : V / 2 ^ (7 * k) < 128) : V < 2 ^ (7 * (k + 1)) := by
  have h2 : (2 : Nat) ^ (7 * (k + 1)) = 2 ^ (7 * k) * 128 := by rw [Nat.mul_add, Nat.pow_add]
  rw [h2]; exact (Nat.div_lt_iff_lt_mul (Nat.pow_pos (by decide))).mp h |> fun q => by rw [Nat.mul_comm]; exact q
theorem own_ge (V k : Nat) (h : ¬ V / 2 ^ (7 * k) < 128) : 2 ^ (7 * (k + 1)) ≤ V := by
  have h2 : (2 : Nat) ^ (7 * (k + 1)) = 128 * 2 ^ (7 * k) := by rw [Nat.mul_add, Nat.pow_add, Nat.mul_comm]
  rw [h2]; exact (Nat.le_div_iff_mul_le (Nat.pow_pos (by decide))).mp (Nat.le_of_not_lt h)
theorem own_or (x : Int32) (h0 : 0 ≤ x.toInt) (h1 : x.toInt < 128) : (x ||| (128 : Int32)).toInt = x.toInt + 128 := by
  obtain ⟨n, hn⟩ : ∃ n : Nat, x.toInt = n := ⟨x.toInt.toNat, by omega⟩
  have t : ∀ k : Fin 128, ((Int32.ofNat k.val) ||| (128 : Int32)).toInt = (k.val : Int) + 128 := by decide +kernel
  have := t ⟨n, by omega⟩
  rw [n_nat hn, ← n_nat hn, n_nat hn, this, ← n_nat hn, hn]
theorem pn_com_example_unigram_query_likelihood_unigramquerylikelihood_index_VarintPutPinLaw : plainName "com/example/unigram_query_likelihood/unigramquerylikelihood/index/VarintPutPinLaw" = true := by first | (simp [plainName, overriddenIn]; done) | decide +kernel
theorem d_len_0 : decode method_2_code 0 = .ok (.lload_n 0, 1) := by decide +kernel
theorem d_len_1 : decode method_2_code 1 = .ok (.bipush 56, 2) := by decide +kernel
theorem d_len_3 : decode method_2_code 3 = .ok (.lushr, 1) := by decide +kernel
theorem d_len_4 : decode method_2_code 4 = .ok (.lconst 0, 1) := by decide +kernel
theorem d_len_5 : decode method_2_code 5 = .ok (.lcmp, 1) := by decide +kernel
theorem d_len_6 : decode method_2_code 6 = .ok (.ifCond .eq 6, 3) := by decide +kernel
theorem d_len_12 : decode method_2_code 12 = .ok (.lload_n 0, 1) := by decide +kernel
theorem d_len_13 : decode method_2_code 13 = .ok (.bipush 49, 2) := by decide +kernel
theorem d_len_15 : decode method_2_code 15 = .ok (.lushr, 1) := by decide +kernel
theorem d_len_16 : decode method_2_code 16 = .ok (.lconst 0, 1) := by decide +kernel
theorem d_len_17 : decode method_2_code 17 = .ok (.lcmp, 1) := by decide +kernel
theorem d_len_18 : decode method_2_code 18 = .ok (.ifCond .eq 6, 3) := by decide +kernel
theorem d_len_24 : decode method_2_code 24 = .ok (.lload_n 0, 1) := by decide +kernel
theorem d_len_25 : decode method_2_code 25 = .ok (.bipush 42, 2) := by decide +kernel
theorem d_len_27 : decode method_2_code 27 = .ok (.lushr, 1) := by decide +kernel
theorem d_len_28 : decode method_2_code 28 = .ok (.lconst 0, 1) := by decide +kernel
theorem d_len_29 : decode method_2_code 29 = .ok (.lcmp, 1) := by decide +kernel
theorem d_len_30 : decode method_2_code 30 = .ok (.ifCond .eq 6, 3) := by decide +kernel
theorem d_len_36 : decode method_2_code 36 = .ok (.lload_n 0, 1) := by decide +kernel
theorem d_len_37 : decode method_2_code 37 = .ok (.bipush 35, 2) := by decide +kernel
theorem d_len_39 : decode method_2_code 39 = .ok (.lushr, 1) := by decide +kernel
theorem d_len_40 : decode method_2_code 40 = .ok (.lconst 0, 1) := by decide +kernel
theorem d_len_41 : decode method_2_code 41 = .ok (.lcmp, 1) := by decide +kernel
theorem d_len_42 : decode method_2_code 42 = .ok (.ifCond .eq 6, 3) := by decide +kernel
theorem d_len_48 : decode method_2_code 48 = .ok (.lload_n 0, 1) := by decide +kernel
theorem d_len_49 : decode method_2_code 49 = .ok (.bipush 28, 2) := by decide +kernel
theorem d_len_51 : decode method_2_code 51 = .ok (.lushr, 1) := by decide +kernel
theorem d_len_52 : decode method_2_code 52 = .ok (.lconst 0, 1) := by decide +kernel
theorem d_len_53 : decode method_2_code 53 = .ok (.lcmp, 1) := by decide +kernel
theorem d_len_54 : decode method_2_code 54 = .ok (.ifCond .eq 5, 3) := by decide +kernel
theorem d_len_59 : decode method_2_code 59 = .ok (.lload_n 0, 1) := by decide +kernel
theorem d_len_60 : decode method_2_code 60 = .ok (.bipush 21, 2) := by decide +kernel
theorem d_len_62 : decode method_2_code 62 = .ok (.lushr, 1) := by decide +kernel
theorem d_len_63 : decode method_2_code 63 = .ok (.lconst 0, 1) := by decide +kernel
theorem d_len_64 : decode method_2_code 64 = .ok (.lcmp, 1) := by decide +kernel
theorem d_len_65 : decode method_2_code 65 = .ok (.ifCond .eq 5, 3) := by decide +kernel
theorem d_len_70 : decode method_2_code 70 = .ok (.lload_n 0, 1) := by decide +kernel
theorem d_len_71 : decode method_2_code 71 = .ok (.bipush 14, 2) := by decide +kernel
theorem d_len_73 : decode method_2_code 73 = .ok (.lushr, 1) := by decide +kernel
theorem d_len_74 : decode method_2_code 74 = .ok (.lconst 0, 1) := by decide +kernel
theorem d_len_75 : decode method_2_code 75 = .ok (.lcmp, 1) := by decide +kernel
theorem d_len_76 : decode method_2_code 76 = .ok (.ifCond .eq 5, 3) := by decide +kernel
theorem d_len_81 : decode method_2_code 81 = .ok (.lload_n 0, 1) := by decide +kernel
theorem d_len_82 : decode method_2_code 82 = .ok (.bipush 7, 2) := by decide +kernel
theorem d_len_84 : decode method_2_code 84 = .ok (.lushr, 1) := by decide +kernel
theorem d_len_85 : decode method_2_code 85 = .ok (.lconst 0, 1) := by decide +kernel
theorem d_len_86 : decode method_2_code 86 = .ok (.lcmp, 1) := by decide +kernel
theorem d_len_87 : decode method_2_code 87 = .ok (.ifCond .eq 5, 3) := by decide +kernel
theorem d_len_92 : decode method_2_code 92 = .ok (.iconst 1, 1) := by decide +kernel
theorem d_len_93 : decode method_2_code 93 = .ok (.ireturn, 1) := by decide +kernel
theorem d_len_90 : decode method_2_code 90 = .ok (.iconst 2, 1) := by decide +kernel
theorem d_len_91 : decode method_2_code 91 = .ok (.ireturn, 1) := by decide +kernel
theorem d_len_79 : decode method_2_code 79 = .ok (.iconst 3, 1) := by decide +kernel
theorem d_len_80 : decode method_2_code 80 = .ok (.ireturn, 1) := by decide +kernel
theorem d_len_68 : decode method_2_code 68 = .ok (.iconst 4, 1) := by decide +kernel
theorem d_len_69 : decode method_2_code 69 = .ok (.ireturn, 1) := by decide +kernel
theorem d_len_57 : decode method_2_code 57 = .ok (.iconst 5, 1) := by decide +kernel
theorem d_len_58 : decode method_2_code 58 = .ok (.ireturn, 1) := by decide +kernel
theorem d_len_45 : decode method_2_code 45 = .ok (.bipush 6, 2) := by decide +kernel
theorem d_len_47 : decode method_2_code 47 = .ok (.ireturn, 1) := by decide +kernel
theorem d_len_33 : decode method_2_code 33 = .ok (.bipush 7, 2) := by decide +kernel
theorem d_len_35 : decode method_2_code 35 = .ok (.ireturn, 1) := by decide +kernel
theorem d_len_21 : decode method_2_code 21 = .ok (.bipush 8, 2) := by decide +kernel
theorem d_len_23 : decode method_2_code 23 = .ok (.ireturn, 1) := by decide +kernel
theorem d_len_9 : decode method_2_code 9 = .ok (.bipush 9, 2) := by decide +kernel
theorem d_len_11 : decode method_2_code 11 = .ok (.ireturn, 1) := by decide +kernel
theorem pn_com_example_unigram_query_likelihood_unigramquerylikelihood_index_Varint : plainName "com/example/unigram_query_likelihood/unigramquerylikelihood/index/Varint" = true := by first | (simp [plainName, overriddenIn]; done) | decide +kernel
theorem d_put_0 : decode prog_83_method_3_code 0 = .ok (.lload_n 2, 1) := by decide +kernel
theorem d_put_1 : decode prog_83_method_3_code 1 = .ok (.ldc2_w 7, 3) := by decide +kernel
theorem d_put_4 : decode prog_83_method_3_code 4 = .ok (.land, 1) := by decide +kernel
theorem d_put_5 : decode prog_83_method_3_code 5 = .ok (.lconst 0, 1) := by decide +kernel
theorem d_put_6 : decode prog_83_method_3_code 6 = .ok (.lcmp, 1) := by decide +kernel
theorem d_put_7 : decode prog_83_method_3_code 7 = .ok (.ifCond .eq 24, 3) := by decide +kernel
theorem d_put_31 : decode prog_83_method_3_code 31 = .ok (.aload_n 0, 1) := by decide +kernel
theorem d_put_32 : decode prog_83_method_3_code 32 = .ok (.iload_n 1, 1) := by decide +kernel
theorem d_put_33 : decode prog_83_method_3_code 33 = .ok (.iinc 1 1, 3) := by decide +kernel
theorem d_put_36 : decode prog_83_method_3_code 36 = .ok (.lload_n 2, 1) := by decide +kernel
theorem d_put_37 : decode prog_83_method_3_code 37 = .ok (.l2i, 1) := by decide +kernel
theorem d_put_38 : decode prog_83_method_3_code 38 = .ok (.i2b, 1) := by decide +kernel
theorem d_put_39 : decode prog_83_method_3_code 39 = .ok (.bastore, 1) := by decide +kernel
theorem d_put_40 : decode prog_83_method_3_code 40 = .ok (.iload_n 1, 1) := by decide +kernel
theorem d_put_41 : decode prog_83_method_3_code 41 = .ok (.ireturn, 1) := by decide +kernel
theorem d_put_10 : decode prog_83_method_3_code 10 = .ok (.aload_n 0, 1) := by decide +kernel
theorem d_put_11 : decode prog_83_method_3_code 11 = .ok (.iload_n 1, 1) := by decide +kernel
theorem d_put_12 : decode prog_83_method_3_code 12 = .ok (.iinc 1 1, 3) := by decide +kernel
theorem d_put_15 : decode prog_83_method_3_code 15 = .ok (.lload_n 2, 1) := by decide +kernel
theorem d_put_16 : decode prog_83_method_3_code 16 = .ok (.ldc2_w 9, 3) := by decide +kernel
theorem d_put_19 : decode prog_83_method_3_code 19 = .ok (.lor, 1) := by decide +kernel
theorem d_put_20 : decode prog_83_method_3_code 20 = .ok (.l2i, 1) := by decide +kernel
theorem d_put_21 : decode prog_83_method_3_code 21 = .ok (.i2b, 1) := by decide +kernel
theorem d_put_22 : decode prog_83_method_3_code 22 = .ok (.bastore, 1) := by decide +kernel
theorem d_put_23 : decode prog_83_method_3_code 23 = .ok (.lload_n 2, 1) := by decide +kernel
theorem d_put_24 : decode prog_83_method_3_code 24 = .ok (.bipush 7, 2) := by decide +kernel
theorem d_put_26 : decode prog_83_method_3_code 26 = .ok (.lushr, 1) := by decide +kernel
theorem d_put_27 : decode prog_83_method_3_code 27 = .ok (.lstore_n 2, 1) := by decide +kernel
theorem d_put_28 : decode prog_83_method_3_code 28 = .ok (.goto (-28), 3) := by decide +kernel
theorem d_ok_0 : decode method_3_code 0 = .ok (.iload_n 1, 1) := by decide +kernel
theorem d_ok_1 : decode method_3_code 1 = .ok (.iload_n 2, 1) := by decide +kernel
theorem d_ok_2 : decode method_3_code 2 = .ok (.if_icmp .lt 10, 3) := by decide +kernel
theorem d_ok_12 : decode method_3_code 12 = .ok (.aload_n 0, 1) := by decide +kernel
theorem d_ok_13 : decode method_3_code 13 = .ok (.iload_n 1, 1) := by decide +kernel
theorem d_ok_14 : decode method_3_code 14 = .ok (.baload, 1) := by decide +kernel
theorem d_ok_15 : decode method_3_code 15 = .ok (.iload 6, 2) := by decide +kernel
theorem d_ok_17 : decode method_3_code 17 = .ok (.if_icmp .ne 7, 3) := by decide +kernel
theorem d_ok_24 : decode method_3_code 24 = .ok (.iconst 0, 1) := by decide +kernel
theorem d_ok_25 : decode method_3_code 25 = .ok (.ireturn, 1) := by decide +kernel
theorem d_ok_20 : decode method_3_code 20 = .ok (.iconst 1, 1) := by decide +kernel
theorem d_ok_21 : decode method_3_code 21 = .ok (.goto 4, 3) := by decide +kernel
theorem d_ok_5 : decode method_3_code 5 = .ok (.iload_n 1, 1) := by decide +kernel
theorem d_ok_6 : decode method_3_code 6 = .ok (.iload_n 2, 1) := by decide +kernel
theorem d_ok_7 : decode method_3_code 7 = .ok (.iload_n 3, 1) := by decide +kernel
theorem d_ok_8 : decode method_3_code 8 = .ok (.iadd, 1) := by decide +kernel
theorem d_ok_9 : decode method_3_code 9 = .ok (.if_icmp .lt 17, 3) := by decide +kernel
theorem d_ok_26 : decode method_3_code 26 = .ok (.iload_n 1, 1) := by decide +kernel
theorem d_ok_27 : decode method_3_code 27 = .ok (.iload_n 2, 1) := by decide +kernel
theorem d_ok_28 : decode method_3_code 28 = .ok (.isub, 1) := by decide +kernel
theorem d_ok_29 : decode method_3_code 29 = .ok (.istore 7, 2) := by decide +kernel
theorem d_ok_31 : decode method_3_code 31 = .ok (.lload 4, 2) := by decide +kernel
theorem d_ok_33 : decode method_3_code 33 = .ok (.bipush 7, 2) := by decide +kernel
theorem d_ok_35 : decode method_3_code 35 = .ok (.iload 7, 2) := by decide +kernel
theorem d_ok_37 : decode method_3_code 37 = .ok (.imul, 1) := by decide +kernel
theorem d_ok_38 : decode method_3_code 38 = .ok (.lushr, 1) := by decide +kernel
theorem d_ok_39 : decode method_3_code 39 = .ok (.ldc2_w 7, 3) := by decide +kernel
theorem d_ok_42 : decode method_3_code 42 = .ok (.land, 1) := by decide +kernel
theorem d_ok_43 : decode method_3_code 43 = .ok (.l2i, 1) := by decide +kernel
theorem d_ok_44 : decode method_3_code 44 = .ok (.istore 8, 2) := by decide +kernel
theorem d_ok_46 : decode method_3_code 46 = .ok (.iload 7, 2) := by decide +kernel
theorem d_ok_48 : decode method_3_code 48 = .ok (.iload_n 3, 1) := by decide +kernel
theorem d_ok_49 : decode method_3_code 49 = .ok (.iconst 1, 1) := by decide +kernel
theorem d_ok_50 : decode method_3_code 50 = .ok (.isub, 1) := by decide +kernel
theorem d_ok_51 : decode method_3_code 51 = .ok (.if_icmp .ge 11, 3) := by decide +kernel
theorem d_ok_62 : decode method_3_code 62 = .ok (.aload_n 0, 1) := by decide +kernel
theorem d_ok_63 : decode method_3_code 63 = .ok (.iload_n 1, 1) := by decide +kernel
theorem d_ok_64 : decode method_3_code 64 = .ok (.baload, 1) := by decide +kernel
theorem d_ok_65 : decode method_3_code 65 = .ok (.iload 8, 2) := by decide +kernel
theorem d_ok_67 : decode method_3_code 67 = .ok (.i2b, 1) := by decide +kernel
theorem d_ok_68 : decode method_3_code 68 = .ok (.if_icmp .ne 7, 3) := by decide +kernel
theorem d_ok_75 : decode method_3_code 75 = .ok (.iconst 0, 1) := by decide +kernel
theorem d_ok_76 : decode method_3_code 76 = .ok (.ireturn, 1) := by decide +kernel
theorem d_ok_71 : decode method_3_code 71 = .ok (.iconst 1, 1) := by decide +kernel
theorem d_ok_72 : decode method_3_code 72 = .ok (.goto 4, 3) := by decide +kernel
theorem d_ok_54 : decode method_3_code 54 = .ok (.iload 8, 2) := by decide +kernel
theorem d_ok_56 : decode method_3_code 56 = .ok (.sipush 128, 3) := by decide +kernel
theorem d_ok_59 : decode method_3_code 59 = .ok (.ior, 1) := by decide +kernel
theorem d_ok_60 : decode method_3_code 60 = .ok (.istore 8, 2) := by decide +kernel
theorem pd_len : parseMethodDescriptor "(J)I" = some ⟨[.long], (some .int)⟩ := by decide +kernel
theorem pd_put : parseMethodDescriptor "([BIJ)I" = some ⟨[.array (.byte), .int, .long], (some .int)⟩ := by decide +kernel
theorem pd_ok : parseMethodDescriptor "([BIIIJB)Z" = some ⟨[.array (.byte), .int, .int, .int, .long, .byte], (some .boolean)⟩ := by decide +kernel
set_option maxRecDepth 65536 in
set_option maxHeartbeats 40000000 in
theorem con_len (l : Launch) (Z : State) (a0 : Array Value) (hw : ∀ d ∈ tables_1, d.before a0 Z = true) (q0 : Int64) (V : Nat) (h0 : Heap) (n0 : Nat) (Z0 : n0 ≤ h0.size) (hV : q0.toInt = V) : Con l Z (⟨"com/example/unigram_query_likelihood/unigramquerylikelihood/index/VarintPutPinLaw", "len", "(J)I"⟩ : MethodName) method_2_code 2 (some .int) ({ frames := 0, cells := 0, slots := 0, locals := 0 } : Room) #[(.long q0)] h0 n0 0 0 (fun v h => (∃ (z : Int32) (n : Nat), v = some (.int z) ∧ z.toInt = n ∧ 1 ≤ n ∧ n ≤ 9 ∧ own_N V n) ∧ h0 = h) := by
  refine Con.of_body (ls := #[.val (.long q0), .second]) pn_com_example_unigram_query_likelihood_unigramquerylikelihood_index_VarintPutPinLaw (fun m => by first | (simp [entryFrame, mkF, argsToLocals, Value.category]; done) | rfl) Z0 (fun p e s m below meth c T (X : Here p l e ({ frames := 0, cells := 0, slots := 0, locals := 0 } : Room) s m #[(.long q0)] below meth c Z "com/example/unigram_query_likelihood/unigramquerylikelihood/index/VarintPutPinLaw" "len" method_2_code 2 (some .int) n0 T h0 0 0) => ?_)
  have hb := q0.toInt_lt
  have c56 := own_c q0 V hV (56 : Int32) 56 rfl (by decide)
  have c49 := own_c q0 V hV (49 : Int32) 49 rfl (by decide)
  have c42 := own_c q0 V hV (42 : Int32) 42 rfl (by decide)
  have c35 := own_c q0 V hV (35 : Int32) 35 rfl (by decide)
  have c28 := own_c q0 V hV (28 : Int32) 28 rfl (by decide)
  have c21 := own_c q0 V hV (21 : Int32) 21 rfl (by decide)
  have c14 := own_c q0 V hV (14 : Int32) 14 rfl (by decide)
  have c7 := own_c q0 V hV (7 : Int32) 7 rfl (by decide)
  simp only [show (2 : Nat) ^ 56 = 72057594037927936 from rfl, show (2 : Nat) ^ 49 = 562949953421312 from rfl, show (2 : Nat) ^ 42 = 4398046511104 from rfl, show (2 : Nat) ^ 35 = 34359738368 from rfl, show (2 : Nat) ^ 28 = 268435456 from rfl, show (2 : Nat) ^ 21 = 2097152 from rfl, show (2 : Nat) ^ 14 = 16384 from rfl, show (2 : Nat) ^ 7 = 128 from rfl] at c56 c49 c42 c35 c28 c21 c14 c7
  refine r_lloadN X (pc' := 1) d_len_0 rfl rfl ?_
  refine r_bipush X (pc' := 3) (v := (56 : Int32)) d_len_1 rfl rfl ?_
  refine r_lushr X (pc' := 4) (z := (XT.ushrL q0 (56 : Int32))) d_len_3 rfl rfl ?_
  refine r_lconst X (pc' := 5) (v := (0 : Int64)) d_len_4 rfl rfl ?_
  refine r_lcmp X (pc' := 6) (z := (XT.cmpL (XT.ushrL q0 (56 : Int32)) (0 : Int64))) d_len_5 rfl rfl ?_
  refine r_if X (pc' := 12) (pc2 := 9) d_len_6 (by decide) (by decide) rfl (a := (XT.cmpL (XT.ushrL q0 (56 : Int32)) (0 : Int64)).toInt) (b := 0) rfl rfl (fun (cq1 : (XT.cmpL (XT.ushrL q0 (56 : Int32)) (0 : Int64)).toInt = 0) => ?_) (fun (cq1 : ¬ ((XT.cmpL (XT.ushrL q0 (56 : Int32)) (0 : Int64)).toInt = 0)) => ?_)
  · refine r_lloadN X (pc' := 13) d_len_12 rfl rfl ?_
    refine r_bipush X (pc' := 15) (v := (49 : Int32)) d_len_13 rfl rfl ?_
    refine r_lushr X (pc' := 16) (z := (XT.ushrL q0 (49 : Int32))) d_len_15 rfl rfl ?_
    refine r_lconst X (pc' := 17) (v := (0 : Int64)) d_len_16 rfl rfl ?_
    refine r_lcmp X (pc' := 18) (z := (XT.cmpL (XT.ushrL q0 (49 : Int32)) (0 : Int64))) d_len_17 rfl rfl ?_
    refine r_if X (pc' := 24) (pc2 := 21) d_len_18 (by decide) (by decide) rfl (a := (XT.cmpL (XT.ushrL q0 (49 : Int32)) (0 : Int64)).toInt) (b := 0) rfl rfl (fun (cq2 : (XT.cmpL (XT.ushrL q0 (49 : Int32)) (0 : Int64)).toInt = 0) => ?_) (fun (cq2 : ¬ ((XT.cmpL (XT.ushrL q0 (49 : Int32)) (0 : Int64)).toInt = 0)) => ?_)
    · refine r_lloadN X (pc' := 25) d_len_24 rfl rfl ?_
      refine r_bipush X (pc' := 27) (v := (42 : Int32)) d_len_25 rfl rfl ?_
      refine r_lushr X (pc' := 28) (z := (XT.ushrL q0 (42 : Int32))) d_len_27 rfl rfl ?_
      refine r_lconst X (pc' := 29) (v := (0 : Int64)) d_len_28 rfl rfl ?_
      refine r_lcmp X (pc' := 30) (z := (XT.cmpL (XT.ushrL q0 (42 : Int32)) (0 : Int64))) d_len_29 rfl rfl ?_
      refine r_if X (pc' := 36) (pc2 := 33) d_len_30 (by decide) (by decide) rfl (a := (XT.cmpL (XT.ushrL q0 (42 : Int32)) (0 : Int64)).toInt) (b := 0) rfl rfl (fun (cq3 : (XT.cmpL (XT.ushrL q0 (42 : Int32)) (0 : Int64)).toInt = 0) => ?_) (fun (cq3 : ¬ ((XT.cmpL (XT.ushrL q0 (42 : Int32)) (0 : Int64)).toInt = 0)) => ?_)
      · refine r_lloadN X (pc' := 37) d_len_36 rfl rfl ?_
        refine r_bipush X (pc' := 39) (v := (35 : Int32)) d_len_37 rfl rfl ?_
        refine r_lushr X (pc' := 40) (z := (XT.ushrL q0 (35 : Int32))) d_len_39 rfl rfl ?_
        refine r_lconst X (pc' := 41) (v := (0 : Int64)) d_len_40 rfl rfl ?_
        refine r_lcmp X (pc' := 42) (z := (XT.cmpL (XT.ushrL q0 (35 : Int32)) (0 : Int64))) d_len_41 rfl rfl ?_
        refine r_if X (pc' := 48) (pc2 := 45) d_len_42 (by decide) (by decide) rfl (a := (XT.cmpL (XT.ushrL q0 (35 : Int32)) (0 : Int64)).toInt) (b := 0) rfl rfl (fun (cq4 : (XT.cmpL (XT.ushrL q0 (35 : Int32)) (0 : Int64)).toInt = 0) => ?_) (fun (cq4 : ¬ ((XT.cmpL (XT.ushrL q0 (35 : Int32)) (0 : Int64)).toInt = 0)) => ?_)
        · refine r_lloadN X (pc' := 49) d_len_48 rfl rfl ?_
          refine r_bipush X (pc' := 51) (v := (28 : Int32)) d_len_49 rfl rfl ?_
          refine r_lushr X (pc' := 52) (z := (XT.ushrL q0 (28 : Int32))) d_len_51 rfl rfl ?_
          refine r_lconst X (pc' := 53) (v := (0 : Int64)) d_len_52 rfl rfl ?_
          refine r_lcmp X (pc' := 54) (z := (XT.cmpL (XT.ushrL q0 (28 : Int32)) (0 : Int64))) d_len_53 rfl rfl ?_
          refine r_if X (pc' := 59) (pc2 := 57) d_len_54 (by decide) (by decide) rfl (a := (XT.cmpL (XT.ushrL q0 (28 : Int32)) (0 : Int64)).toInt) (b := 0) rfl rfl (fun (cq5 : (XT.cmpL (XT.ushrL q0 (28 : Int32)) (0 : Int64)).toInt = 0) => ?_) (fun (cq5 : ¬ ((XT.cmpL (XT.ushrL q0 (28 : Int32)) (0 : Int64)).toInt = 0)) => ?_)
          · refine r_lloadN X (pc' := 60) d_len_59 rfl rfl ?_
            refine r_bipush X (pc' := 62) (v := (21 : Int32)) d_len_60 rfl rfl ?_
            refine r_lushr X (pc' := 63) (z := (XT.ushrL q0 (21 : Int32))) d_len_62 rfl rfl ?_
            refine r_lconst X (pc' := 64) (v := (0 : Int64)) d_len_63 rfl rfl ?_
            refine r_lcmp X (pc' := 65) (z := (XT.cmpL (XT.ushrL q0 (21 : Int32)) (0 : Int64))) d_len_64 rfl rfl ?_
            refine r_if X (pc' := 70) (pc2 := 68) d_len_65 (by decide) (by decide) rfl (a := (XT.cmpL (XT.ushrL q0 (21 : Int32)) (0 : Int64)).toInt) (b := 0) rfl rfl (fun (cq6 : (XT.cmpL (XT.ushrL q0 (21 : Int32)) (0 : Int64)).toInt = 0) => ?_) (fun (cq6 : ¬ ((XT.cmpL (XT.ushrL q0 (21 : Int32)) (0 : Int64)).toInt = 0)) => ?_)
            · refine r_lloadN X (pc' := 71) d_len_70 rfl rfl ?_
              refine r_bipush X (pc' := 73) (v := (14 : Int32)) d_len_71 rfl rfl ?_
              refine r_lushr X (pc' := 74) (z := (XT.ushrL q0 (14 : Int32))) d_len_73 rfl rfl ?_
              refine r_lconst X (pc' := 75) (v := (0 : Int64)) d_len_74 rfl rfl ?_
              refine r_lcmp X (pc' := 76) (z := (XT.cmpL (XT.ushrL q0 (14 : Int32)) (0 : Int64))) d_len_75 rfl rfl ?_
              refine r_if X (pc' := 81) (pc2 := 79) d_len_76 (by decide) (by decide) rfl (a := (XT.cmpL (XT.ushrL q0 (14 : Int32)) (0 : Int64)).toInt) (b := 0) rfl rfl (fun (cq7 : (XT.cmpL (XT.ushrL q0 (14 : Int32)) (0 : Int64)).toInt = 0) => ?_) (fun (cq7 : ¬ ((XT.cmpL (XT.ushrL q0 (14 : Int32)) (0 : Int64)).toInt = 0)) => ?_)
              · refine r_lloadN X (pc' := 82) d_len_81 rfl rfl ?_
                refine r_bipush X (pc' := 84) (v := (7 : Int32)) d_len_82 rfl rfl ?_
                refine r_lushr X (pc' := 85) (z := (XT.ushrL q0 (7 : Int32))) d_len_84 rfl rfl ?_
                refine r_lconst X (pc' := 86) (v := (0 : Int64)) d_len_85 rfl rfl ?_
                refine r_lcmp X (pc' := 87) (z := (XT.cmpL (XT.ushrL q0 (7 : Int32)) (0 : Int64))) d_len_86 rfl rfl ?_
                refine r_if X (pc' := 92) (pc2 := 90) d_len_87 (by decide) (by decide) rfl (a := (XT.cmpL (XT.ushrL q0 (7 : Int32)) (0 : Int64)).toInt) (b := 0) rfl rfl (fun (cq8 : (XT.cmpL (XT.ushrL q0 (7 : Int32)) (0 : Int64)).toInt = 0) => ?_) (fun (cq8 : ¬ ((XT.cmpL (XT.ushrL q0 (7 : Int32)) (0 : Int64)).toInt = 0)) => ?_)
                · refine r_iconst X (pc' := 93) (v := (1 : Int32)) d_len_92 rfl rfl ?_
                  exact r_retI X d_len_93 ⟨⟨_, 1, rfl, rfl, by decide, by decide, (by show V < 128; omega), Or.inl rfl⟩, rfl⟩ (by decide) (by decide)
                · refine r_iconst X (pc' := 91) (v := (2 : Int32)) d_len_90 rfl rfl ?_
                  exact r_retI X d_len_91 ⟨⟨_, 2, rfl, rfl, by decide, by decide, (by show V < 16384; omega), Or.inr (by show 128 ≤ V; omega)⟩, rfl⟩ (by decide) (by decide)
              · refine r_iconst X (pc' := 80) (v := (3 : Int32)) d_len_79 rfl rfl ?_
                exact r_retI X d_len_80 ⟨⟨_, 3, rfl, rfl, by decide, by decide, (by show V < 2097152; omega), Or.inr (by show 16384 ≤ V; omega)⟩, rfl⟩ (by decide) (by decide)
            · refine r_iconst X (pc' := 69) (v := (4 : Int32)) d_len_68 rfl rfl ?_
              exact r_retI X d_len_69 ⟨⟨_, 4, rfl, rfl, by decide, by decide, (by show V < 268435456; omega), Or.inr (by show 2097152 ≤ V; omega)⟩, rfl⟩ (by decide) (by decide)
          · refine r_iconst X (pc' := 58) (v := (5 : Int32)) d_len_57 rfl rfl ?_
            exact r_retI X d_len_58 ⟨⟨_, 5, rfl, rfl, by decide, by decide, (by show V < 34359738368; omega), Or.inr (by show 268435456 ≤ V; omega)⟩, rfl⟩ (by decide) (by decide)
        · refine r_bipush X (pc' := 47) (v := (6 : Int32)) d_len_45 rfl rfl ?_
          exact r_retI X d_len_47 ⟨⟨_, 6, rfl, rfl, by decide, by decide, (by show V < 4398046511104; omega), Or.inr (by show 34359738368 ≤ V; omega)⟩, rfl⟩ (by decide) (by decide)
      · refine r_bipush X (pc' := 35) (v := (7 : Int32)) d_len_33 rfl rfl ?_
        exact r_retI X d_len_35 ⟨⟨_, 7, rfl, rfl, by decide, by decide, (by show V < 562949953421312; omega), Or.inr (by show 4398046511104 ≤ V; omega)⟩, rfl⟩ (by decide) (by decide)
    · refine r_bipush X (pc' := 23) (v := (8 : Int32)) d_len_21 rfl rfl ?_
      exact r_retI X d_len_23 ⟨⟨_, 8, rfl, rfl, by decide, by decide, (by show V < 72057594037927936; omega), Or.inr (by show 562949953421312 ≤ V; omega)⟩, rfl⟩ (by decide) (by decide)
  · refine r_bipush X (pc' := 11) (v := (9 : Int32)) d_len_9 rfl rfl ?_
    exact r_retI X d_len_11 ⟨⟨_, 9, rfl, rfl, by decide, by decide, (by show V < 9223372036854775808; omega), Or.inr (by show 72057594037927936 ≤ V; omega)⟩, rfl⟩ (by decide) (by decide)
set_option maxRecDepth 65536 in
set_option maxHeartbeats 40000000 in
theorem con_put (l : Launch) (Z : State) (a0 : Array Value) (hw : ∀ d ∈ tables_1, d.before a0 Z = true) (t1 : Addr) (q1 : Int32) (q0 : Int64) (f : Nat → Int32) (V i : Nat) (h0 : Heap) (n0 : Nat) (Z0 : n0 ≤ h0.size) (A0 : Arf Z h0 t1 .byte 17 f) (g1 : n0 ≤ t1) (hq1 : q1.toInt = i) (hi : i ≤ 7) (hV : q0.toInt = V) : Con l Z (⟨"com/example/unigram_query_likelihood/unigramquerylikelihood/index/Varint", "put", "([BIJ)I"⟩ : MethodName) prog_83_method_3_code 4 (some .int) ({ frames := 0, cells := 0, slots := 0, locals := 0 } : Room) #[(.ref t1), (.int q1), (.long q0)] h0 n0 0 0 (fun v h => ∃ (z : Int32) (n : Nat) (g : Nat → Int32), v = some (.int z) ∧ z.toInt = ((i + n : Nat) : Int) ∧ 1 ≤ n ∧ n ≤ 9 ∧ own_N V n ∧ Arf Z h t1 .byte 17 g ∧ own_E V i f g n) := by
  refine Con.of_body (ls := #[.val (.ref t1), .val (.int q1), .val (.long q0), .second]) pn_com_example_unigram_query_likelihood_unigramquerylikelihood_index_Varint (fun m => by first | (simp [entryFrame, mkF, argsToLocals, Value.category]; done) | rfl) Z0 (fun p e s m below meth c T (X : Here p l e ({ frames := 0, cells := 0, slots := 0, locals := 0 } : Room) s m #[(.ref t1), (.int q1), (.long q0)] below meth c Z "com/example/unigram_query_likelihood/unigramquerylikelihood/index/Varint" "put" prog_83_method_3_code 4 (some .int) n0 T h0 0 0) => ?_)
  have hb := q0.toInt_lt
  have LL : ∀ (d k : Nat) (z : Int32) (r : Int64) (T : State) (h : Heap) (g : Nat → Int32), k + d = 8 → z.toInt = ((i + k : Nat) : Int) → r.toInt = ((V / 2 ^ (7 * k) : Nat) : Int) → (k = 0 ∨ 2 ^ (7 * k) ≤ V) → Here p l e ({ frames := 0, cells := 0, slots := 0, locals := 0 } : Room) s m #[(.ref t1), (.int q1), (.long q0)] below meth c Z "com/example/unigram_query_likelihood/unigramquerylikelihood/index/Varint" "put" prog_83_method_3_code 4 (some .int) n0 T h 0 0 → Arf Z h t1 .byte 17 g → own_G V i f g k → Run p e below (Fnl s n0 0 0 (fun v h => ∃ (z : Int32) (n : Nat) (g : Nat → Int32), v = some (.int z) ∧ z.toInt = ((i + n : Nat) : Int) ∧ 1 ≤ n ∧ n ≤ 9 ∧ own_N V n ∧ Arf Z h t1 .byte 17 g ∧ own_E V i f g n)) T (mkF m 0 #[.val (.ref t1), .val (.int z), .val (.long r), .second] []) := by
    intro d
    induction d with
    | zero =>
      intro k z r T h g hd hz hr hk X A G
      have cm := own_m r (V / 2 ^ (7 * k)) hr
      obtain ⟨z2, hz2⟩ : ∃ y, z + (1 : Int32) = y := ⟨_, rfl⟩
      have kz2 : z2.toInt = ((i + (k + 1) : Nat) : Int) := by rw [← hz2, n_add hz (show (1 : Int32).toInt = 1 from rfl) (by omega) (by omega)]; omega
      refine r_lloadN X (pc' := 1) d_put_0 rfl rfl ?_
      refine r_ldc2J X (pc' := 4) (v := (-128 : Int64)) d_put_1 (wd hw 10 rfl) rfl ?_
      refine r_land X (pc' := 5) (z := (r &&& (-128 : Int64))) d_put_4 rfl rfl ?_
      refine r_lconst X (pc' := 6) (v := (0 : Int64)) d_put_5 rfl rfl ?_
      refine r_lcmp X (pc' := 7) (z := (XT.cmpL (r &&& (-128 : Int64)) (0 : Int64))) d_put_6 rfl rfl ?_
      refine r_if X (pc' := 31) (pc2 := 10) d_put_7 (by decide) (by decide) rfl (a := (XT.cmpL (r &&& (-128 : Int64)) (0 : Int64)).toInt) (b := 0) rfl rfl (fun (cq9 : (XT.cmpL (r &&& (-128 : Int64)) (0 : Int64)).toInt = 0) => ?_) (fun (cq9 : ¬ ((XT.cmpL (r &&& (-128 : Int64)) (0 : Int64)).toInt = 0)) => ?_)
      · refine r_aloadN X (pc' := 32) d_put_31 rfl rfl ?_
        refine r_iloadN X (pc' := 33) d_put_32 rfl rfl ?_
        refine r_iinc X (pc' := 36) (z := z2) (ls' := #[.val (.ref t1), .val (.int z2), .val (.long r), .second]) d_put_33 rfl hz2 rfl rfl ?_
        refine r_lloadN X (pc' := 37) d_put_36 rfl rfl ?_
        refine r_l2i X (pc' := 38) (z := (r.toInt32)) d_put_37 rfl rfl ?_
        refine r_i2b X (pc' := 39) (z := (own_b r.toInt32)) d_put_38 rfl rfl ?_
        have kb := own_s2 r _ hr (by omega)
        refine r_bastore X (pc' := 40) (i := (i + k)) (v := (own_b r.toInt32)) d_put_39 A hz (by omega) g1 (own_nb _) rfl (fun T10 h11 X12 W13 A14 => ?_)
        refine r_iloadN X12 (pc' := 41) d_put_40 rfl rfl ?_
        exact r_retI X12 d_put_41 ⟨_, k + 1, _, rfl, kz2, by omega, by omega, ⟨own_lt V k (by omega), by rw [show k + 1 - 1 = k by omega]; omega⟩, A14, own_G_end G kb (by omega)⟩ (by decide) (by decide)
      · exfalso
        have k8 : k = 8 := by omega
        subst k8
        simp only [show 7 * 8 = 56 from rfl, show (2 : Nat) ^ 56 = 72057594037927936 from rfl] at *
        omega
    | succ d ih =>
      intro k z r T h g hd hz hr hk X A G
      have cm := own_m r (V / 2 ^ (7 * k)) hr
      obtain ⟨z2, hz2⟩ : ∃ y, z + (1 : Int32) = y := ⟨_, rfl⟩
      have kz2 : z2.toInt = ((i + (k + 1) : Nat) : Int) := by rw [← hz2, n_add hz (show (1 : Int32).toInt = 1 from rfl) (by omega) (by omega)]; omega
      refine r_lloadN X (pc' := 1) d_put_0 rfl rfl ?_
      refine r_ldc2J X (pc' := 4) (v := (-128 : Int64)) d_put_1 (wd hw 10 rfl) rfl ?_
      refine r_land X (pc' := 5) (z := (r &&& (-128 : Int64))) d_put_4 rfl rfl ?_
      refine r_lconst X (pc' := 6) (v := (0 : Int64)) d_put_5 rfl rfl ?_
      refine r_lcmp X (pc' := 7) (z := (XT.cmpL (r &&& (-128 : Int64)) (0 : Int64))) d_put_6 rfl rfl ?_
      refine r_if X (pc' := 31) (pc2 := 10) d_put_7 (by decide) (by decide) rfl (a := (XT.cmpL (r &&& (-128 : Int64)) (0 : Int64)).toInt) (b := 0) rfl rfl (fun (cq15 : (XT.cmpL (r &&& (-128 : Int64)) (0 : Int64)).toInt = 0) => ?_) (fun (cq15 : ¬ ((XT.cmpL (r &&& (-128 : Int64)) (0 : Int64)).toInt = 0)) => ?_)
      · refine r_aloadN X (pc' := 32) d_put_31 rfl rfl ?_
        refine r_iloadN X (pc' := 33) d_put_32 rfl rfl ?_
        refine r_iinc X (pc' := 36) (z := z2) (ls' := #[.val (.ref t1), .val (.int z2), .val (.long r), .second]) d_put_33 rfl hz2 rfl rfl ?_
        refine r_lloadN X (pc' := 37) d_put_36 rfl rfl ?_
        refine r_l2i X (pc' := 38) (z := (r.toInt32)) d_put_37 rfl rfl ?_
        refine r_i2b X (pc' := 39) (z := (own_b r.toInt32)) d_put_38 rfl rfl ?_
        have kb := own_s2 r _ hr (by omega)
        refine r_bastore X (pc' := 40) (i := (i + k)) (v := (own_b r.toInt32)) d_put_39 A hz (by omega) g1 (own_nb _) rfl (fun T16 h17 X18 W19 A20 => ?_)
        refine r_iloadN X18 (pc' := 41) d_put_40 rfl rfl ?_
        exact r_retI X18 d_put_41 ⟨_, k + 1, _, rfl, kz2, by omega, by omega, ⟨own_lt V k (by omega), by rw [show k + 1 - 1 = k by omega]; omega⟩, A20, own_G_end G kb (by omega)⟩ (by decide) (by decide)
      · refine r_aloadN X (pc' := 11) d_put_10 rfl rfl ?_
        refine r_iloadN X (pc' := 12) d_put_11 rfl rfl ?_
        refine r_iinc X (pc' := 15) (z := z2) (ls' := #[.val (.ref t1), .val (.int z2), .val (.long r), .second]) d_put_12 rfl hz2 rfl rfl ?_
        refine r_lloadN X (pc' := 16) d_put_15 rfl rfl ?_
        refine r_ldc2J X (pc' := 19) (v := (128 : Int64)) d_put_16 (wd hw 15 rfl) rfl ?_
        refine r_lor X (pc' := 20) (z := (r ||| (128 : Int64))) d_put_19 rfl rfl ?_
        refine r_l2i X (pc' := 21) (z := ((r ||| (128 : Int64)).toInt32)) d_put_20 rfl rfl ?_
        refine r_i2b X (pc' := 22) (z := (own_b (r ||| (128 : Int64)).toInt32)) d_put_21 rfl rfl ?_
        have kb := own_s1 r _ hr
        refine r_bastore X (pc' := 23) (i := (i + k)) (v := (own_b (r ||| (128 : Int64)).toInt32)) d_put_22 A hz (by omega) g1 (own_nb _) rfl (fun T21 h22 X23 W24 A25 => ?_)
        have ku := own_u r _ hr (7 : Int32) 7 rfl (by decide)
        rw [own_p] at ku
        refine r_lloadN X23 (pc' := 24) d_put_23 rfl rfl ?_
        refine r_bipush X23 (pc' := 26) (v := (7 : Int32)) d_put_24 rfl rfl ?_
        refine r_lushr X23 (pc' := 27) (z := (XT.ushrL r (7 : Int32))) d_put_26 rfl rfl ?_
        refine r_lstoreN X23 (pc' := 28) (ls' := #[.val (.ref t1), .val (.int z2), .val (.long (XT.ushrL r (7 : Int32))), .second]) d_put_27 rfl rfl ?_
        refine r_goto X23 (pc' := 0) d_put_28 (by decide) (by decide) ?_
        exact ih (k + 1) z2 _ _ _ _ (by omega) kz2 ku (Or.inr (own_ge V k (by omega))) X23 A25 (own_G_step G kb)
  exact LL 8 0 q1 q0 T h0 f rfl (by rw [hq1]; rfl) (by rw [hV]; simp) (Or.inl rfl) X A0 ⟨fun j h1 => by omega, fun j h1 => rfl⟩
set_option maxRecDepth 65536 in
set_option maxHeartbeats 40000000 in
theorem con_ok (l : Launch) (Z : State) (a0 : Array Value) (hw : ∀ d ∈ tables_1, d.before a0 Z = true) (t1 : Addr) (q1 q2 q3 : Int32) (q4 : Int64) (q5 : Int32) (f g : Nat → Int32) (V i n j : Nat) (h0 : Heap) (n0 : Nat) (Z0 : n0 ≤ h0.size) (A0 : Arf Z h0 t1 .byte 17 g) (hq1 : q1.toInt = j) (hj : j < 17) (hq2 : q2.toInt = i) (hi : i ≤ 7) (hq3 : q3.toInt = n) (hn1 : 1 ≤ n) (hn : n ≤ 9) (hV : q4.toInt = V) (H : own_E V i f g n) (hf : (f j).toInt = q5.toInt) : Con l Z (⟨"com/example/unigram_query_likelihood/unigramquerylikelihood/index/VarintPutPinLaw", "ok", "([BIIIJB)Z"⟩ : MethodName) method_3_code 9 (some .boolean) ({ frames := 0, cells := 0, slots := 0, locals := 0 } : Room) #[(.ref t1), (.int q1), (.int q2), (.int q3), (.long q4), (.int q5)] h0 n0 0 0 (fun v h => v = some (.int 1) ∧ h0 = h) := by
  refine Con.of_body (ls := #[.val (.ref t1), .val (.int q1), .val (.int q2), .val (.int q3), .val (.long q4), .second, .val (.int q5), .unset, .unset]) pn_com_example_unigram_query_likelihood_unigramquerylikelihood_index_VarintPutPinLaw (fun m => by first | (simp [entryFrame, mkF, argsToLocals, Value.category]; done) | rfl) Z0 (fun p e s m below meth c T (X : Here p l e ({ frames := 0, cells := 0, slots := 0, locals := 0 } : Room) s m #[(.ref t1), (.int q1), (.int q2), (.int q3), (.long q4), (.int q5)] below meth c Z "com/example/unigram_query_likelihood/unigramquerylikelihood/index/VarintPutPinLaw" "ok" method_3_code 9 (some .boolean) n0 T h0 0 0) => ?_)
  obtain ⟨s1, hs1⟩ : ∃ y, q2 + q3 = y := ⟨_, rfl⟩
  have ks1 : s1.toInt = (i : Int) + n := by rw [← hs1]; exact n_add hq2 hq3 (by omega) (by omega)
  refine r_iloadN X (pc' := 1) d_ok_0 rfl rfl ?_
  refine r_iloadN X (pc' := 2) d_ok_1 rfl rfl ?_
  refine r_icmp X (pc' := 12) (pc2 := 5) d_ok_2 (by decide) (by decide) rfl (a := q1.toInt) (b := q2.toInt) rfl rfl (fun (cq26 : q1.toInt < q2.toInt) => ?_) (fun (cq26 : ¬ (q1.toInt < q2.toInt)) => ?_)
  · refine r_aloadN X (pc' := 13) d_ok_12 rfl rfl ?_
    refine r_iloadN X (pc' := 14) d_ok_13 rfl rfl ?_
    refine r_baload X (pc' := 15) (i := j) (v := (g j)) d_ok_14 A0 hq1 hj rfl rfl ?_
    refine r_iload X (pc' := 17) d_ok_15 rfl rfl ?_
    refine r_icmp X (pc' := 24) (pc2 := 20) d_ok_17 (by decide) (by decide) rfl (a := (g j).toInt) (b := q5.toInt) rfl rfl (fun (cq27 : ¬ (g j).toInt = q5.toInt) => ?_) (fun (cq27 : ¬ (¬ (g j).toInt = q5.toInt)) => ?_)
    · refine r_iconst X (pc' := 25) (v := (0 : Int32)) d_ok_24 rfl rfl ?_
      exfalso; have hg := H.2.2 j (by omega); rw [hg] at cq27; omega
    · refine r_iconst X (pc' := 21) (v := (1 : Int32)) d_ok_20 rfl rfl ?_
      refine r_goto X (pc' := 25) d_ok_21 (by decide) (by decide) ?_
      exact r_retN X (by simp) d_ok_25 (z := (1 : Int32)) (w := (1 : Int32)) rfl ⟨rfl, rfl⟩ (by decide) (by decide)
  · refine r_iloadN X (pc' := 6) d_ok_5 rfl rfl ?_
    refine r_iloadN X (pc' := 7) d_ok_6 rfl rfl ?_
    refine r_iloadN X (pc' := 8) d_ok_7 rfl rfl ?_
    refine r_iadd X (pc' := 9) (z := s1) d_ok_8 hs1 rfl ?_
    refine r_icmp X (pc' := 26) (pc2 := 12) d_ok_9 (by decide) (by decide) rfl (a := q1.toInt) (b := s1.toInt) rfl rfl (fun (cq28 : q1.toInt < s1.toInt) => ?_) (fun (cq28 : ¬ (q1.toInt < s1.toInt)) => ?_)
    · obtain ⟨jj, hjj⟩ : ∃ y, q1 - q2 = y := ⟨_, rfl⟩
      obtain ⟨k, hk⟩ : ∃ k, j = i + k := ⟨j - i, by omega⟩
      have kjj : jj.toInt = k := by rw [← hjj, n_sub hq1 hq2 (by omega) (by omega)]; omega
      obtain ⟨sj, hsj⟩ : ∃ y, (7 : Int32) * jj = y := ⟨_, rfl⟩
      have ksj : sj.toInt = ((7 * k : Nat) : Int) := by rw [← hsj, Jvm.Kit.i32_mul (by rw [kjj, show (7 : Int32).toInt = 7 from rfl]; omega) (by rw [kjj, show (7 : Int32).toInt = 7 from rfl]; omega), kjj]; rfl
      have ku := own_u q4 V hV sj (7 * k) ksj (by omega)
      have km : (XT.ushrL q4 sj &&& (127 : Int64)).toInt = (XT.ushrL q4 sj).toInt % 2 ^ 7 := Jvm.Kit.i64_mask _ 127 (k := 7) (by decide) (by decide)
      obtain ⟨gr, hgr⟩ : ∃ y, (XT.ushrL q4 sj &&& (127 : Int64)).toInt32 = y := ⟨_, rfl⟩
      have kgr : gr.toInt = ((V / 2 ^ (7 * k) % 128 : Nat) : Int) := by rw [← hgr, Jvm.Kit.i32_of_i64 (by omega) (by omega), km, ku]; rfl
      obtain ⟨n1, hn1'⟩ : ∃ y, q3 - (1 : Int32) = y := ⟨_, rfl⟩
      have kn1 : n1.toInt = (n : Int) - 1 := by rw [← hn1']; exact n_sub hq3 rfl (by omega) (by omega)
      have gb : gr.toInt < 128 ∧ 0 ≤ gr.toInt := by rw [kgr]; omega
      have kor : (gr ||| (128 : Int32)).toInt = gr.toInt + 128 := own_or gr gb.2 gb.1
      refine r_iloadN X (pc' := 27) d_ok_26 rfl rfl ?_
      refine r_iloadN X (pc' := 28) d_ok_27 rfl rfl ?_
      refine r_isub X (pc' := 29) (z := jj) d_ok_28 hjj rfl ?_
      refine r_istore X (pc' := 31) (ls' := #[.val (.ref t1), .val (.int q1), .val (.int q2), .val (.int q3), .val (.long q4), .second, .val (.int q5), .val (.int jj), .unset]) d_ok_29 rfl rfl ?_
      refine r_lload X (pc' := 33) d_ok_31 rfl rfl ?_
      refine r_bipush X (pc' := 35) (v := (7 : Int32)) d_ok_33 rfl rfl ?_
      refine r_iload X (pc' := 37) d_ok_35 rfl rfl ?_
      refine r_imul X (pc' := 38) (z := sj) d_ok_37 hsj rfl ?_
      refine r_lushr X (pc' := 39) (z := (XT.ushrL q4 sj)) d_ok_38 rfl rfl ?_
      refine r_ldc2J X (pc' := 42) (v := (127 : Int64)) d_ok_39 (wd hw 14 rfl) rfl ?_
      refine r_land X (pc' := 43) (z := ((XT.ushrL q4 sj) &&& (127 : Int64))) d_ok_42 rfl rfl ?_
      refine r_l2i X (pc' := 44) (z := gr) d_ok_43 hgr rfl ?_
      refine r_istore X (pc' := 46) (ls' := #[.val (.ref t1), .val (.int q1), .val (.int q2), .val (.int q3), .val (.long q4), .second, .val (.int q5), .val (.int jj), .val (.int gr)]) d_ok_44 rfl rfl ?_
      refine r_iload X (pc' := 48) d_ok_46 rfl rfl ?_
      refine r_iloadN X (pc' := 49) d_ok_48 rfl rfl ?_
      refine r_iconst X (pc' := 50) (v := (1 : Int32)) d_ok_49 rfl rfl ?_
      refine r_isub X (pc' := 51) (z := n1) d_ok_50 hn1' rfl ?_
      refine r_icmp X (pc' := 62) (pc2 := 54) d_ok_51 (by decide) (by decide) rfl (a := jj.toInt) (b := n1.toInt) rfl rfl (fun (cq29 : n1.toInt ≤ jj.toInt) => ?_) (fun (cq29 : ¬ (n1.toInt ≤ jj.toInt)) => ?_)
      · have hl := H.2.1
        have ek : n - 1 = k := by omega
        rw [ek, ← hk, ← kgr] at hl
        have hbb := own_bi gr
        refine r_aloadN X (pc' := 63) d_ok_62 rfl rfl ?_
        refine r_iloadN X (pc' := 64) d_ok_63 rfl rfl ?_
        refine r_baload X (pc' := 65) (i := j) (v := (g j)) d_ok_64 A0 hq1 hj rfl rfl ?_
        refine r_iload X (pc' := 67) d_ok_65 rfl rfl ?_
        refine r_i2b X (pc' := 68) (z := (own_b gr)) d_ok_67 rfl rfl ?_
        refine r_icmp X (pc' := 75) (pc2 := 71) d_ok_68 (by decide) (by decide) rfl (a := (g j).toInt) (b := (own_b gr).toInt) rfl rfl (fun (cq30 : ¬ (g j).toInt = (own_b gr).toInt) => ?_) (fun (cq30 : ¬ (¬ (g j).toInt = (own_b gr).toInt)) => ?_)
        · refine r_iconst X (pc' := 76) (v := (0 : Int32)) d_ok_75 rfl rfl ?_
          exfalso; omega
        · refine r_iconst X (pc' := 72) (v := (1 : Int32)) d_ok_71 rfl rfl ?_
          refine r_goto X (pc' := 76) d_ok_72 (by decide) (by decide) ?_
          exact r_retN X (by simp) d_ok_76 (z := (1 : Int32)) (w := (1 : Int32)) rfl ⟨rfl, rfl⟩ (by decide) (by decide)
      · have hl := H.1 k (by omega)
        rw [← hk, ← kgr] at hl
        have hbb := own_bi (gr ||| (128 : Int32))
        refine r_iload X (pc' := 56) d_ok_54 rfl rfl ?_
        refine r_sipush X (pc' := 59) (v := (128 : Int32)) d_ok_56 rfl rfl ?_
        refine r_ior X (pc' := 60) (z := (gr ||| (128 : Int32))) d_ok_59 rfl rfl ?_
        refine r_istore X (pc' := 62) (ls' := #[.val (.ref t1), .val (.int q1), .val (.int q2), .val (.int q3), .val (.long q4), .second, .val (.int q5), .val (.int jj), .val (.int (gr ||| (128 : Int32)))]) d_ok_60 rfl rfl ?_
        refine r_aloadN X (pc' := 63) d_ok_62 rfl rfl ?_
        refine r_iloadN X (pc' := 64) d_ok_63 rfl rfl ?_
        refine r_baload X (pc' := 65) (i := j) (v := (g j)) d_ok_64 A0 hq1 hj rfl rfl ?_
        refine r_iload X (pc' := 67) d_ok_65 rfl rfl ?_
        refine r_i2b X (pc' := 68) (z := (own_b (gr ||| (128 : Int32)))) d_ok_67 rfl rfl ?_
        refine r_icmp X (pc' := 75) (pc2 := 71) d_ok_68 (by decide) (by decide) rfl (a := (g j).toInt) (b := (own_b (gr ||| (128 : Int32))).toInt) rfl rfl (fun (cq31 : ¬ (g j).toInt = (own_b (gr ||| (128 : Int32))).toInt) => ?_) (fun (cq31 : ¬ (¬ (g j).toInt = (own_b (gr ||| (128 : Int32))).toInt)) => ?_)
        · refine r_iconst X (pc' := 76) (v := (0 : Int32)) d_ok_75 rfl rfl ?_
          exfalso; omega
        · refine r_iconst X (pc' := 72) (v := (1 : Int32)) d_ok_71 rfl rfl ?_
          refine r_goto X (pc' := 76) d_ok_72 (by decide) (by decide) ?_
          exact r_retN X (by simp) d_ok_76 (z := (1 : Int32)) (w := (1 : Int32)) rfl ⟨rfl, rfl⟩ (by decide) (by decide)
    · refine r_aloadN X (pc' := 13) d_ok_12 rfl rfl ?_
      refine r_iloadN X (pc' := 14) d_ok_13 rfl rfl ?_
      refine r_baload X (pc' := 15) (i := j) (v := (g j)) d_ok_14 A0 hq1 hj rfl rfl ?_
      refine r_iload X (pc' := 17) d_ok_15 rfl rfl ?_
      refine r_icmp X (pc' := 24) (pc2 := 20) d_ok_17 (by decide) (by decide) rfl (a := (g j).toInt) (b := q5.toInt) rfl rfl (fun (cq32 : ¬ (g j).toInt = q5.toInt) => ?_) (fun (cq32 : ¬ (¬ (g j).toInt = q5.toInt)) => ?_)
      · refine r_iconst X (pc' := 25) (v := (0 : Int32)) d_ok_24 rfl rfl ?_
        exfalso; have hg := H.2.2 j (by omega); rw [hg] at cq32; omega
      · refine r_iconst X (pc' := 21) (v := (1 : Int32)) d_ok_20 rfl rfl ?_
        refine r_goto X (pc' := 25) d_ok_21 (by decide) (by decide) ?_
        exact r_retN X (by simp) d_ok_25 (z := (1 : Int32)) (w := (1 : Int32)) rfl ⟨rfl, rfl⟩ (by decide) (by decide)
set_option maxRecDepth 65536 in
set_option maxHeartbeats 40000000 in
theorem con_law (l : Launch) (Z : State) (a0 : Array Value) (hw : ∀ d ∈ tables_1, d.before a0 Z = true) (p1 : Int64) (p2 p3 p4 : Int32) (h0 : Heap) (n0 : Nat) (Z0 : n0 ≤ h0.size)  : Con l Z x code maxLocals ret room_1 #[(.long p1), (.int p2), (.int p3), (.int p4)] h0 n0 16 128 (fun v _ => v = some (.int 1)) := by
  refine Con.of_body (ls := #[.val (.long p1), .second, .val (.int p2), .val (.int p3), .val (.int p4), .unset, .unset, .unset, .unset, .unset, .unset, .unset]) pn_com_example_unigram_query_likelihood_unigramquerylikelihood_index_VarintPutPinLaw (fun m => by first | (simp [entryFrame, mkF, argsToLocals, Value.category, maxLocals]; done) | rfl) Z0 (fun p e s m below meth c T (X : Here p l e room_1 s m #[(.long p1), (.int p2), (.int p3), (.int p4)] below meth c Z "com/example/unigram_query_likelihood/unigramquerylikelihood/index/VarintPutPinLaw" "law" code 12 (some .boolean) n0 T h0 0 0) => ?_)
  have km : (p1 &&& (9223372036854775807 : Int64)).toInt = p1.toInt % 2 ^ 63 := Jvm.Kit.i64_mask p1 9223372036854775807 (k := 63) (by decide) (by decide)
  have k63 : (p2 &&& (63 : Int32)).toInt = p2.toInt % 2 ^ 6 := Jvm.Kit.i32_mask p2 63 (k := 6) (by decide) (by decide)
  obtain ⟨sh, hsh⟩ : ∃ n : Nat, (p2 &&& (63 : Int32)).toInt = n := ⟨(p2 &&& (63 : Int32)).toInt.toNat, by omega⟩
  obtain ⟨V0, hV0⟩ : ∃ n : Nat, (p1 &&& (9223372036854775807 : Int64)).toInt = n := ⟨(p1 &&& (9223372036854775807 : Int64)).toInt.toNat, by omega⟩
  have kvv := own_u (p1 &&& (9223372036854775807 : Int64)) V0 hV0 (p2 &&& (63 : Int32)) sh hsh (by omega)
  obtain ⟨vv, hvv⟩ : ∃ z, XT.ushrL (p1 &&& (9223372036854775807 : Int64)) (p2 &&& (63 : Int32)) = z := ⟨_, rfl⟩
  rw [hvv] at kvv
  obtain ⟨V, hV⟩ : ∃ n : Nat, vv.toInt = n := ⟨_, kvv⟩
  have k7 : (p3 &&& (7 : Int32)).toInt = p3.toInt % 2 ^ 3 := Jvm.Kit.i32_mask p3 7 (k := 3) (by decide) (by decide)
  obtain ⟨oo, hoo⟩ : ∃ z, p3 &&& (7 : Int32) = z := ⟨_, rfl⟩
  rw [hoo] at k7
  obtain ⟨i, hi⟩ : ∃ n : Nat, oo.toInt = n := ⟨oo.toInt.toNat, by omega⟩
  have hi7 : i ≤ 7 := by omega
  refine r_lloadN X (pc' := 1) at_0 rfl rfl ?_
  refine r_ldc2J X (pc' := 4) (v := (9223372036854775807 : Int64)) at_1 (wd hw 0 rfl) rfl ?_
  refine r_land X (pc' := 5) (z := (p1 &&& (9223372036854775807 : Int64))) at_4 rfl rfl ?_
  refine r_iloadN X (pc' := 6) at_5 rfl rfl ?_
  refine r_bipush X (pc' := 8) (v := (63 : Int32)) at_6 rfl rfl ?_
  refine r_iand X (pc' := 9) (z := (p2 &&& (63 : Int32))) at_8 rfl rfl ?_
  refine r_lushr X (pc' := 10) (z := vv) at_9 hvv rfl ?_
  refine r_lstore X (pc' := 12) (ls' := #[.val (.long p1), .second, .val (.int p2), .val (.int p3), .val (.int p4), .val (.long vv), .second, .unset, .unset, .unset, .unset, .unset]) at_10 rfl rfl ?_
  refine r_iloadN X (pc' := 13) at_12 rfl rfl ?_
  refine r_bipush X (pc' := 15) (v := (7 : Int32)) at_13 rfl rfl ?_
  refine r_iand X (pc' := 16) (z := oo) at_15 hoo rfl ?_
  refine r_istore X (pc' := 18) (ls' := #[.val (.long p1), .second, .val (.int p2), .val (.int p3), .val (.int p4), .val (.long vv), .second, .val (.int oo), .unset, .unset, .unset, .unset]) at_16 rfl rfl ?_
  refine r_iload X (pc' := 20) at_18 rfl rfl ?_
  refine r_i2b X (pc' := 21) (z := (own_b p4)) at_20 rfl rfl ?_
  refine r_istore X (pc' := 23) (ls' := #[.val (.long p1), .second, .val (.int p2), .val (.int p3), .val (.int p4), .val (.long vv), .second, .val (.int oo), .val (.int (own_b p4)), .unset, .unset, .unset]) at_21 rfl rfl ?_
  refine r_bipush X (pc' := 25) (v := (17 : Int32)) at_23 rfl rfl ?_
  refine r_newarray X (pc' := 27) (N := 17) at_25 (wd hw 1 rfl) rfl rfl (by decide) (by decide) (by decide) rfl (fun T33 h34 b35 X36 ebb35 geb35 E37 A38 => ?_)
  refine r_dup X36 (pc' := 28) at_27 rfl rfl ?_
  refine r_iconst X36 (pc' := 29) (v := (0 : Int32)) at_28 rfl rfl ?_
  refine r_iload X36 (pc' := 31) at_29 rfl rfl ?_
  refine r_bastore X36 (pc' := 32) (i := 0) (v := (own_b p4)) at_31 A38 rfl (by decide) geb35 (own_nb _) rfl (fun T39 h40 X41 W42 A43 => ?_)
  refine r_dup X41 (pc' := 33) at_32 rfl rfl ?_
  refine r_iconst X41 (pc' := 34) (v := (1 : Int32)) at_33 rfl rfl ?_
  refine r_iload X41 (pc' := 36) at_34 rfl rfl ?_
  refine r_bastore X41 (pc' := 37) (i := 1) (v := (own_b p4)) at_36 A43 rfl (by decide) geb35 (own_nb _) rfl (fun T44 h45 X46 W47 A48 => ?_)
  refine r_dup X46 (pc' := 38) at_37 rfl rfl ?_
  refine r_iconst X46 (pc' := 39) (v := (2 : Int32)) at_38 rfl rfl ?_
  refine r_iload X46 (pc' := 41) at_39 rfl rfl ?_
  refine r_bastore X46 (pc' := 42) (i := 2) (v := (own_b p4)) at_41 A48 rfl (by decide) geb35 (own_nb _) rfl (fun T49 h50 X51 W52 A53 => ?_)
  refine r_dup X51 (pc' := 43) at_42 rfl rfl ?_
  refine r_iconst X51 (pc' := 44) (v := (3 : Int32)) at_43 rfl rfl ?_
  refine r_iload X51 (pc' := 46) at_44 rfl rfl ?_
  refine r_bastore X51 (pc' := 47) (i := 3) (v := (own_b p4)) at_46 A53 rfl (by decide) geb35 (own_nb _) rfl (fun T54 h55 X56 W57 A58 => ?_)
  refine r_dup X56 (pc' := 48) at_47 rfl rfl ?_
  refine r_iconst X56 (pc' := 49) (v := (4 : Int32)) at_48 rfl rfl ?_
  refine r_iload X56 (pc' := 51) at_49 rfl rfl ?_
  refine r_bastore X56 (pc' := 52) (i := 4) (v := (own_b p4)) at_51 A58 rfl (by decide) geb35 (own_nb _) rfl (fun T59 h60 X61 W62 A63 => ?_)
  refine r_dup X61 (pc' := 53) at_52 rfl rfl ?_
  refine r_iconst X61 (pc' := 54) (v := (5 : Int32)) at_53 rfl rfl ?_
  refine r_iload X61 (pc' := 56) at_54 rfl rfl ?_
  refine r_bastore X61 (pc' := 57) (i := 5) (v := (own_b p4)) at_56 A63 rfl (by decide) geb35 (own_nb _) rfl (fun T64 h65 X66 W67 A68 => ?_)
  refine r_dup X66 (pc' := 58) at_57 rfl rfl ?_
  refine r_bipush X66 (pc' := 60) (v := (6 : Int32)) at_58 rfl rfl ?_
  refine r_iload X66 (pc' := 62) at_60 rfl rfl ?_
  refine r_bastore X66 (pc' := 63) (i := 6) (v := (own_b p4)) at_62 A68 rfl (by decide) geb35 (own_nb _) rfl (fun T69 h70 X71 W72 A73 => ?_)
  refine r_dup X71 (pc' := 64) at_63 rfl rfl ?_
  refine r_bipush X71 (pc' := 66) (v := (7 : Int32)) at_64 rfl rfl ?_
  refine r_iload X71 (pc' := 68) at_66 rfl rfl ?_
  refine r_bastore X71 (pc' := 69) (i := 7) (v := (own_b p4)) at_68 A73 rfl (by decide) geb35 (own_nb _) rfl (fun T74 h75 X76 W77 A78 => ?_)
  refine r_dup X76 (pc' := 70) at_69 rfl rfl ?_
  refine r_bipush X76 (pc' := 72) (v := (8 : Int32)) at_70 rfl rfl ?_
  refine r_iload X76 (pc' := 74) at_72 rfl rfl ?_
  refine r_bastore X76 (pc' := 75) (i := 8) (v := (own_b p4)) at_74 A78 rfl (by decide) geb35 (own_nb _) rfl (fun T79 h80 X81 W82 A83 => ?_)
  refine r_dup X81 (pc' := 76) at_75 rfl rfl ?_
  refine r_bipush X81 (pc' := 78) (v := (9 : Int32)) at_76 rfl rfl ?_
  refine r_iload X81 (pc' := 80) at_78 rfl rfl ?_
  refine r_bastore X81 (pc' := 81) (i := 9) (v := (own_b p4)) at_80 A83 rfl (by decide) geb35 (own_nb _) rfl (fun T84 h85 X86 W87 A88 => ?_)
  refine r_dup X86 (pc' := 82) at_81 rfl rfl ?_
  refine r_bipush X86 (pc' := 84) (v := (10 : Int32)) at_82 rfl rfl ?_
  refine r_iload X86 (pc' := 86) at_84 rfl rfl ?_
  refine r_bastore X86 (pc' := 87) (i := 10) (v := (own_b p4)) at_86 A88 rfl (by decide) geb35 (own_nb _) rfl (fun T89 h90 X91 W92 A93 => ?_)
  refine r_dup X91 (pc' := 88) at_87 rfl rfl ?_
  refine r_bipush X91 (pc' := 90) (v := (11 : Int32)) at_88 rfl rfl ?_
  refine r_iload X91 (pc' := 92) at_90 rfl rfl ?_
  refine r_bastore X91 (pc' := 93) (i := 11) (v := (own_b p4)) at_92 A93 rfl (by decide) geb35 (own_nb _) rfl (fun T94 h95 X96 W97 A98 => ?_)
  refine r_dup X96 (pc' := 94) at_93 rfl rfl ?_
  refine r_bipush X96 (pc' := 96) (v := (12 : Int32)) at_94 rfl rfl ?_
  refine r_iload X96 (pc' := 98) at_96 rfl rfl ?_
  refine r_bastore X96 (pc' := 99) (i := 12) (v := (own_b p4)) at_98 A98 rfl (by decide) geb35 (own_nb _) rfl (fun T99 h100 X101 W102 A103 => ?_)
  refine r_dup X101 (pc' := 100) at_99 rfl rfl ?_
  refine r_bipush X101 (pc' := 102) (v := (13 : Int32)) at_100 rfl rfl ?_
  refine r_iload X101 (pc' := 104) at_102 rfl rfl ?_
  refine r_bastore X101 (pc' := 105) (i := 13) (v := (own_b p4)) at_104 A103 rfl (by decide) geb35 (own_nb _) rfl (fun T104 h105 X106 W107 A108 => ?_)
  refine r_dup X106 (pc' := 106) at_105 rfl rfl ?_
  refine r_bipush X106 (pc' := 108) (v := (14 : Int32)) at_106 rfl rfl ?_
  refine r_iload X106 (pc' := 110) at_108 rfl rfl ?_
  refine r_bastore X106 (pc' := 111) (i := 14) (v := (own_b p4)) at_110 A108 rfl (by decide) geb35 (own_nb _) rfl (fun T109 h110 X111 W112 A113 => ?_)
  refine r_dup X111 (pc' := 112) at_111 rfl rfl ?_
  refine r_bipush X111 (pc' := 114) (v := (15 : Int32)) at_112 rfl rfl ?_
  refine r_iload X111 (pc' := 116) at_114 rfl rfl ?_
  refine r_bastore X111 (pc' := 117) (i := 15) (v := (own_b p4)) at_116 A113 rfl (by decide) geb35 (own_nb _) rfl (fun T114 h115 X116 W117 A118 => ?_)
  refine r_dup X116 (pc' := 118) at_117 rfl rfl ?_
  refine r_bipush X116 (pc' := 120) (v := (16 : Int32)) at_118 rfl rfl ?_
  refine r_iload X116 (pc' := 122) at_120 rfl rfl ?_
  refine r_bastore X116 (pc' := 123) (i := 16) (v := (own_b p4)) at_122 A118 rfl (by decide) geb35 (own_nb _) rfl (fun T119 h120 X121 W122 A123 => ?_)
  obtain ⟨f, hf⟩ : ∃ f, f = (upd (upd (upd (upd (upd (upd (upd (upd (upd (upd (upd (upd (upd (upd (upd (upd (upd (fun _ => 0) 0 (own_b p4)) 1 (own_b p4)) 2 (own_b p4)) 3 (own_b p4)) 4 (own_b p4)) 5 (own_b p4)) 6 (own_b p4)) 7 (own_b p4)) 8 (own_b p4)) 9 (own_b p4)) 10 (own_b p4)) 11 (own_b p4)) 12 (own_b p4)) 13 (own_b p4)) 14 (own_b p4)) 15 (own_b p4)) 16 (own_b p4)) := ⟨_, rfl⟩
  have A9 := A123
  rw [← hf] at A9
  have hs : ∀ n, n < 17 → (f n).toInt = (own_b p4).toInt := by
    intro n hn; rw [hf]
    have : n = 0 ∨ n = 1 ∨ n = 2 ∨ n = 3 ∨ n = 4 ∨ n = 5 ∨ n = 6 ∨ n = 7 ∨ n = 8 ∨ n = 9 ∨ n = 10 ∨ n = 11 ∨ n = 12 ∨ n = 13 ∨ n = 14 ∨ n = 15 ∨ n = 16 := by omega
    rcases this with rfl | rfl | rfl | rfl | rfl | rfl | rfl | rfl | rfl | rfl | rfl | rfl | rfl | rfl | rfl | rfl | rfl <;> rfl
  refine r_astore X121 (pc' := 125) (ls' := #[.val (.long p1), .second, .val (.int p2), .val (.int p3), .val (.int p4), .val (.long vv), .second, .val (.int oo), .val (.int (own_b p4)), .val (.ref b35), .unset, .unset]) at_123 rfl rfl ?_
  refine r_lload X121 (pc' := 127) at_125 rfl rfl ?_
  refine r_callS X121 (pc' := 130) at_127 (con_len l Z a0 hw vv V h120 n0 X121.sz hV) (wd hw 2 rfl) (wd hw 3 rfl) (wd hw 4 rfl) (wd hw 5 rfl) (by decide) (argsL := [(.long vv)]) (rest := []) (W := 0) rfl rfl pd_len rfl rfl (by decide) (by decide) (by decide) (by decide) rfl (fun v124 T125 h126 X127 QQ128 => ?_)
  obtain ⟨⟨nn, n, rfl, hnn, n1, n9, hN⟩, rfl⟩ := QQ128
  show Run p e below _ _ (mkF m 130 #[.val (.long p1), .second, .val (.int p2), .val (.int p3), .val (.int p4), .val (.long vv), .second, .val (.int oo), .val (.int (own_b p4)), .val (.ref b35), .unset, .unset] [(.int nn)])
  refine r_istore X127 (pc' := 132) (ls' := #[.val (.long p1), .second, .val (.int p2), .val (.int p3), .val (.int p4), .val (.long vv), .second, .val (.int oo), .val (.int (own_b p4)), .val (.ref b35), .val (.int nn), .unset]) at_130 rfl rfl ?_
  refine r_aload X127 (pc' := 134) at_132 rfl rfl ?_
  refine r_iload X127 (pc' := 136) at_134 rfl rfl ?_
  refine r_lload X127 (pc' := 138) at_136 rfl rfl ?_
  refine r_callS X127 (pc' := 141) at_138 (con_put l Z a0 hw b35 oo vv f V i h120 n0 X127.sz A9 geb35 hi hi7 hV) (wd hw 6 rfl) (wd hw 7 rfl) (wd hw 8 rfl) (wd hw 9 rfl) (by decide) (argsL := [(.ref b35), (.int oo), (.long vv)]) (rest := []) (W := 0) rfl rfl pd_put rfl rfl (by decide) (by decide) (by decide) (by decide) rfl (fun v129 T130 h131 X132 QQ133 => ?_)
  obtain ⟨rr, n', g, rfl, hrr, n1', n9', hN', Ag, HE⟩ := QQ133
  show Run p e below _ _ (mkF m 141 #[.val (.long p1), .second, .val (.int p2), .val (.int p3), .val (.int p4), .val (.long vv), .second, .val (.int oo), .val (.int (own_b p4)), .val (.ref b35), .val (.int nn), .unset] [(.int rr)])
  have en : n' = n := own_N_uniq hN' hN n1' n1
  subst en
  obtain ⟨sm, hsm⟩ : ∃ z, oo + nn = z := ⟨_, rfl⟩
  have ksm : sm.toInt = (i : Int) + n' := by rw [← hsm]; exact n_add hi hnn (by omega) (by omega)
  refine r_istore X132 (pc' := 143) (ls' := #[.val (.long p1), .second, .val (.int p2), .val (.int p3), .val (.int p4), .val (.long vv), .second, .val (.int oo), .val (.int (own_b p4)), .val (.ref b35), .val (.int nn), .val (.int rr)]) at_141 rfl rfl ?_
  refine r_iload X132 (pc' := 145) at_143 rfl rfl ?_
  refine r_iload X132 (pc' := 147) at_145 rfl rfl ?_
  refine r_iload X132 (pc' := 149) at_147 rfl rfl ?_
  refine r_iadd X132 (pc' := 150) (z := sm) at_149 hsm rfl ?_
  refine r_icmpN X132 (pc2 := 153) at_150 (by decide) rfl (a := rr.toInt) (b := sm.toInt) rfl rfl (show ¬ (¬ rr.toInt = sm.toInt) from (by omega)) ?_
  refine r_aload X132 (pc' := 155) at_153 rfl rfl ?_
  refine r_iconst X132 (pc' := 156) (v := (0 : Int32)) at_155 rfl rfl ?_
  refine r_iload X132 (pc' := 158) at_156 rfl rfl ?_
  refine r_iload X132 (pc' := 160) at_158 rfl rfl ?_
  refine r_lload X132 (pc' := 162) at_160 rfl rfl ?_
  refine r_iload X132 (pc' := 164) at_162 rfl rfl ?_
  refine r_callS X132 (pc' := 167) at_164 (con_ok l Z a0 hw b35 (0 : Int32) oo nn vv (own_b p4) f g V i n' 0 h131 n0 X132.sz Ag rfl (by decide) hi hi7 hnn n1 n9 hV HE (hs 0 (by decide))) (wd hw 11 rfl) (wd hw 12 rfl) (wd hw 4 rfl) (wd hw 13 rfl) (by decide) (argsL := [(.ref b35), (.int (0 : Int32)), (.int oo), (.int nn), (.long vv), (.int (own_b p4))]) (rest := []) (W := 0) rfl rfl pd_ok rfl rfl (by decide) (by decide) (by decide) (by decide) rfl (fun v134 T135 h136 X137 QQ138 => ?_)
  obtain ⟨rfl, rfl⟩ := QQ138
  show Run p e below _ _ (mkF m 167 #[.val (.long p1), .second, .val (.int p2), .val (.int p3), .val (.int p4), .val (.long vv), .second, .val (.int oo), .val (.int (own_b p4)), .val (.ref b35), .val (.int nn), .val (.int rr)] [(.int (1 : Int32))])
  refine r_ifN X137 (pc2 := 170) at_167 (by decide) rfl (a := 1) (b := 0) rfl rfl (show ¬ (1 = 0) from (by decide)) ?_
  refine r_aload X137 (pc' := 172) at_170 rfl rfl ?_
  refine r_iconst X137 (pc' := 173) (v := (1 : Int32)) at_172 rfl rfl ?_
  refine r_iload X137 (pc' := 175) at_173 rfl rfl ?_
  refine r_iload X137 (pc' := 177) at_175 rfl rfl ?_
  refine r_lload X137 (pc' := 179) at_177 rfl rfl ?_
  refine r_iload X137 (pc' := 181) at_179 rfl rfl ?_
  refine r_callS X137 (pc' := 184) at_181 (con_ok l Z a0 hw b35 (1 : Int32) oo nn vv (own_b p4) f g V i n' 1 h131 n0 X137.sz Ag rfl (by decide) hi hi7 hnn n1 n9 hV HE (hs 1 (by decide))) (wd hw 11 rfl) (wd hw 12 rfl) (wd hw 4 rfl) (wd hw 13 rfl) (by decide) (argsL := [(.ref b35), (.int (1 : Int32)), (.int oo), (.int nn), (.long vv), (.int (own_b p4))]) (rest := []) (W := 0) rfl rfl pd_ok rfl rfl (by decide) (by decide) (by decide) (by decide) rfl (fun v139 T140 h141 X142 QQ143 => ?_)
  obtain ⟨rfl, rfl⟩ := QQ143
  show Run p e below _ _ (mkF m 184 #[.val (.long p1), .second, .val (.int p2), .val (.int p3), .val (.int p4), .val (.long vv), .second, .val (.int oo), .val (.int (own_b p4)), .val (.ref b35), .val (.int nn), .val (.int rr)] [(.int (1 : Int32))])
  refine r_ifN X142 (pc2 := 187) at_184 (by decide) rfl (a := 1) (b := 0) rfl rfl (show ¬ (1 = 0) from (by decide)) ?_
  refine r_aload X142 (pc' := 189) at_187 rfl rfl ?_
  refine r_iconst X142 (pc' := 190) (v := (2 : Int32)) at_189 rfl rfl ?_
  refine r_iload X142 (pc' := 192) at_190 rfl rfl ?_
  refine r_iload X142 (pc' := 194) at_192 rfl rfl ?_
  refine r_lload X142 (pc' := 196) at_194 rfl rfl ?_
  refine r_iload X142 (pc' := 198) at_196 rfl rfl ?_
  refine r_callS X142 (pc' := 201) at_198 (con_ok l Z a0 hw b35 (2 : Int32) oo nn vv (own_b p4) f g V i n' 2 h131 n0 X142.sz Ag rfl (by decide) hi hi7 hnn n1 n9 hV HE (hs 2 (by decide))) (wd hw 11 rfl) (wd hw 12 rfl) (wd hw 4 rfl) (wd hw 13 rfl) (by decide) (argsL := [(.ref b35), (.int (2 : Int32)), (.int oo), (.int nn), (.long vv), (.int (own_b p4))]) (rest := []) (W := 0) rfl rfl pd_ok rfl rfl (by decide) (by decide) (by decide) (by decide) rfl (fun v144 T145 h146 X147 QQ148 => ?_)
  obtain ⟨rfl, rfl⟩ := QQ148
  show Run p e below _ _ (mkF m 201 #[.val (.long p1), .second, .val (.int p2), .val (.int p3), .val (.int p4), .val (.long vv), .second, .val (.int oo), .val (.int (own_b p4)), .val (.ref b35), .val (.int nn), .val (.int rr)] [(.int (1 : Int32))])
  refine r_ifN X147 (pc2 := 204) at_201 (by decide) rfl (a := 1) (b := 0) rfl rfl (show ¬ (1 = 0) from (by decide)) ?_
  refine r_aload X147 (pc' := 206) at_204 rfl rfl ?_
  refine r_iconst X147 (pc' := 207) (v := (3 : Int32)) at_206 rfl rfl ?_
  refine r_iload X147 (pc' := 209) at_207 rfl rfl ?_
  refine r_iload X147 (pc' := 211) at_209 rfl rfl ?_
  refine r_lload X147 (pc' := 213) at_211 rfl rfl ?_
  refine r_iload X147 (pc' := 215) at_213 rfl rfl ?_
  refine r_callS X147 (pc' := 218) at_215 (con_ok l Z a0 hw b35 (3 : Int32) oo nn vv (own_b p4) f g V i n' 3 h131 n0 X147.sz Ag rfl (by decide) hi hi7 hnn n1 n9 hV HE (hs 3 (by decide))) (wd hw 11 rfl) (wd hw 12 rfl) (wd hw 4 rfl) (wd hw 13 rfl) (by decide) (argsL := [(.ref b35), (.int (3 : Int32)), (.int oo), (.int nn), (.long vv), (.int (own_b p4))]) (rest := []) (W := 0) rfl rfl pd_ok rfl rfl (by decide) (by decide) (by decide) (by decide) rfl (fun v149 T150 h151 X152 QQ153 => ?_)
  obtain ⟨rfl, rfl⟩ := QQ153
  show Run p e below _ _ (mkF m 218 #[.val (.long p1), .second, .val (.int p2), .val (.int p3), .val (.int p4), .val (.long vv), .second, .val (.int oo), .val (.int (own_b p4)), .val (.ref b35), .val (.int nn), .val (.int rr)] [(.int (1 : Int32))])
  refine r_ifN X152 (pc2 := 221) at_218 (by decide) rfl (a := 1) (b := 0) rfl rfl (show ¬ (1 = 0) from (by decide)) ?_
  refine r_aload X152 (pc' := 223) at_221 rfl rfl ?_
  refine r_iconst X152 (pc' := 224) (v := (4 : Int32)) at_223 rfl rfl ?_
  refine r_iload X152 (pc' := 226) at_224 rfl rfl ?_
  refine r_iload X152 (pc' := 228) at_226 rfl rfl ?_
  refine r_lload X152 (pc' := 230) at_228 rfl rfl ?_
  refine r_iload X152 (pc' := 232) at_230 rfl rfl ?_
  refine r_callS X152 (pc' := 235) at_232 (con_ok l Z a0 hw b35 (4 : Int32) oo nn vv (own_b p4) f g V i n' 4 h131 n0 X152.sz Ag rfl (by decide) hi hi7 hnn n1 n9 hV HE (hs 4 (by decide))) (wd hw 11 rfl) (wd hw 12 rfl) (wd hw 4 rfl) (wd hw 13 rfl) (by decide) (argsL := [(.ref b35), (.int (4 : Int32)), (.int oo), (.int nn), (.long vv), (.int (own_b p4))]) (rest := []) (W := 0) rfl rfl pd_ok rfl rfl (by decide) (by decide) (by decide) (by decide) rfl (fun v154 T155 h156 X157 QQ158 => ?_)
  obtain ⟨rfl, rfl⟩ := QQ158
  show Run p e below _ _ (mkF m 235 #[.val (.long p1), .second, .val (.int p2), .val (.int p3), .val (.int p4), .val (.long vv), .second, .val (.int oo), .val (.int (own_b p4)), .val (.ref b35), .val (.int nn), .val (.int rr)] [(.int (1 : Int32))])
  refine r_ifN X157 (pc2 := 238) at_235 (by decide) rfl (a := 1) (b := 0) rfl rfl (show ¬ (1 = 0) from (by decide)) ?_
  refine r_aload X157 (pc' := 240) at_238 rfl rfl ?_
  refine r_iconst X157 (pc' := 241) (v := (5 : Int32)) at_240 rfl rfl ?_
  refine r_iload X157 (pc' := 243) at_241 rfl rfl ?_
  refine r_iload X157 (pc' := 245) at_243 rfl rfl ?_
  refine r_lload X157 (pc' := 247) at_245 rfl rfl ?_
  refine r_iload X157 (pc' := 249) at_247 rfl rfl ?_
  refine r_callS X157 (pc' := 252) at_249 (con_ok l Z a0 hw b35 (5 : Int32) oo nn vv (own_b p4) f g V i n' 5 h131 n0 X157.sz Ag rfl (by decide) hi hi7 hnn n1 n9 hV HE (hs 5 (by decide))) (wd hw 11 rfl) (wd hw 12 rfl) (wd hw 4 rfl) (wd hw 13 rfl) (by decide) (argsL := [(.ref b35), (.int (5 : Int32)), (.int oo), (.int nn), (.long vv), (.int (own_b p4))]) (rest := []) (W := 0) rfl rfl pd_ok rfl rfl (by decide) (by decide) (by decide) (by decide) rfl (fun v159 T160 h161 X162 QQ163 => ?_)
  obtain ⟨rfl, rfl⟩ := QQ163
  show Run p e below _ _ (mkF m 252 #[.val (.long p1), .second, .val (.int p2), .val (.int p3), .val (.int p4), .val (.long vv), .second, .val (.int oo), .val (.int (own_b p4)), .val (.ref b35), .val (.int nn), .val (.int rr)] [(.int (1 : Int32))])
  refine r_ifN X162 (pc2 := 255) at_252 (by decide) rfl (a := 1) (b := 0) rfl rfl (show ¬ (1 = 0) from (by decide)) ?_
  refine r_aload X162 (pc' := 257) at_255 rfl rfl ?_
  refine r_bipush X162 (pc' := 259) (v := (6 : Int32)) at_257 rfl rfl ?_
  refine r_iload X162 (pc' := 261) at_259 rfl rfl ?_
  refine r_iload X162 (pc' := 263) at_261 rfl rfl ?_
  refine r_lload X162 (pc' := 265) at_263 rfl rfl ?_
  refine r_iload X162 (pc' := 267) at_265 rfl rfl ?_
  refine r_callS X162 (pc' := 270) at_267 (con_ok l Z a0 hw b35 (6 : Int32) oo nn vv (own_b p4) f g V i n' 6 h131 n0 X162.sz Ag rfl (by decide) hi hi7 hnn n1 n9 hV HE (hs 6 (by decide))) (wd hw 11 rfl) (wd hw 12 rfl) (wd hw 4 rfl) (wd hw 13 rfl) (by decide) (argsL := [(.ref b35), (.int (6 : Int32)), (.int oo), (.int nn), (.long vv), (.int (own_b p4))]) (rest := []) (W := 0) rfl rfl pd_ok rfl rfl (by decide) (by decide) (by decide) (by decide) rfl (fun v164 T165 h166 X167 QQ168 => ?_)
  obtain ⟨rfl, rfl⟩ := QQ168
  show Run p e below _ _ (mkF m 270 #[.val (.long p1), .second, .val (.int p2), .val (.int p3), .val (.int p4), .val (.long vv), .second, .val (.int oo), .val (.int (own_b p4)), .val (.ref b35), .val (.int nn), .val (.int rr)] [(.int (1 : Int32))])
  refine r_ifN X167 (pc2 := 273) at_270 (by decide) rfl (a := 1) (b := 0) rfl rfl (show ¬ (1 = 0) from (by decide)) ?_
  refine r_aload X167 (pc' := 275) at_273 rfl rfl ?_
  refine r_bipush X167 (pc' := 277) (v := (7 : Int32)) at_275 rfl rfl ?_
  refine r_iload X167 (pc' := 279) at_277 rfl rfl ?_
  refine r_iload X167 (pc' := 281) at_279 rfl rfl ?_
  refine r_lload X167 (pc' := 283) at_281 rfl rfl ?_
  refine r_iload X167 (pc' := 285) at_283 rfl rfl ?_
  refine r_callS X167 (pc' := 288) at_285 (con_ok l Z a0 hw b35 (7 : Int32) oo nn vv (own_b p4) f g V i n' 7 h131 n0 X167.sz Ag rfl (by decide) hi hi7 hnn n1 n9 hV HE (hs 7 (by decide))) (wd hw 11 rfl) (wd hw 12 rfl) (wd hw 4 rfl) (wd hw 13 rfl) (by decide) (argsL := [(.ref b35), (.int (7 : Int32)), (.int oo), (.int nn), (.long vv), (.int (own_b p4))]) (rest := []) (W := 0) rfl rfl pd_ok rfl rfl (by decide) (by decide) (by decide) (by decide) rfl (fun v169 T170 h171 X172 QQ173 => ?_)
  obtain ⟨rfl, rfl⟩ := QQ173
  show Run p e below _ _ (mkF m 288 #[.val (.long p1), .second, .val (.int p2), .val (.int p3), .val (.int p4), .val (.long vv), .second, .val (.int oo), .val (.int (own_b p4)), .val (.ref b35), .val (.int nn), .val (.int rr)] [(.int (1 : Int32))])
  refine r_ifN X172 (pc2 := 291) at_288 (by decide) rfl (a := 1) (b := 0) rfl rfl (show ¬ (1 = 0) from (by decide)) ?_
  refine r_aload X172 (pc' := 293) at_291 rfl rfl ?_
  refine r_bipush X172 (pc' := 295) (v := (8 : Int32)) at_293 rfl rfl ?_
  refine r_iload X172 (pc' := 297) at_295 rfl rfl ?_
  refine r_iload X172 (pc' := 299) at_297 rfl rfl ?_
  refine r_lload X172 (pc' := 301) at_299 rfl rfl ?_
  refine r_iload X172 (pc' := 303) at_301 rfl rfl ?_
  refine r_callS X172 (pc' := 306) at_303 (con_ok l Z a0 hw b35 (8 : Int32) oo nn vv (own_b p4) f g V i n' 8 h131 n0 X172.sz Ag rfl (by decide) hi hi7 hnn n1 n9 hV HE (hs 8 (by decide))) (wd hw 11 rfl) (wd hw 12 rfl) (wd hw 4 rfl) (wd hw 13 rfl) (by decide) (argsL := [(.ref b35), (.int (8 : Int32)), (.int oo), (.int nn), (.long vv), (.int (own_b p4))]) (rest := []) (W := 0) rfl rfl pd_ok rfl rfl (by decide) (by decide) (by decide) (by decide) rfl (fun v174 T175 h176 X177 QQ178 => ?_)
  obtain ⟨rfl, rfl⟩ := QQ178
  show Run p e below _ _ (mkF m 306 #[.val (.long p1), .second, .val (.int p2), .val (.int p3), .val (.int p4), .val (.long vv), .second, .val (.int oo), .val (.int (own_b p4)), .val (.ref b35), .val (.int nn), .val (.int rr)] [(.int (1 : Int32))])
  refine r_ifN X177 (pc2 := 309) at_306 (by decide) rfl (a := 1) (b := 0) rfl rfl (show ¬ (1 = 0) from (by decide)) ?_
  refine r_aload X177 (pc' := 311) at_309 rfl rfl ?_
  refine r_bipush X177 (pc' := 313) (v := (9 : Int32)) at_311 rfl rfl ?_
  refine r_iload X177 (pc' := 315) at_313 rfl rfl ?_
  refine r_iload X177 (pc' := 317) at_315 rfl rfl ?_
  refine r_lload X177 (pc' := 319) at_317 rfl rfl ?_
  refine r_iload X177 (pc' := 321) at_319 rfl rfl ?_
  refine r_callS X177 (pc' := 324) at_321 (con_ok l Z a0 hw b35 (9 : Int32) oo nn vv (own_b p4) f g V i n' 9 h131 n0 X177.sz Ag rfl (by decide) hi hi7 hnn n1 n9 hV HE (hs 9 (by decide))) (wd hw 11 rfl) (wd hw 12 rfl) (wd hw 4 rfl) (wd hw 13 rfl) (by decide) (argsL := [(.ref b35), (.int (9 : Int32)), (.int oo), (.int nn), (.long vv), (.int (own_b p4))]) (rest := []) (W := 0) rfl rfl pd_ok rfl rfl (by decide) (by decide) (by decide) (by decide) rfl (fun v179 T180 h181 X182 QQ183 => ?_)
  obtain ⟨rfl, rfl⟩ := QQ183
  show Run p e below _ _ (mkF m 324 #[.val (.long p1), .second, .val (.int p2), .val (.int p3), .val (.int p4), .val (.long vv), .second, .val (.int oo), .val (.int (own_b p4)), .val (.ref b35), .val (.int nn), .val (.int rr)] [(.int (1 : Int32))])
  refine r_ifN X182 (pc2 := 327) at_324 (by decide) rfl (a := 1) (b := 0) rfl rfl (show ¬ (1 = 0) from (by decide)) ?_
  refine r_aload X182 (pc' := 329) at_327 rfl rfl ?_
  refine r_bipush X182 (pc' := 331) (v := (10 : Int32)) at_329 rfl rfl ?_
  refine r_iload X182 (pc' := 333) at_331 rfl rfl ?_
  refine r_iload X182 (pc' := 335) at_333 rfl rfl ?_
  refine r_lload X182 (pc' := 337) at_335 rfl rfl ?_
  refine r_iload X182 (pc' := 339) at_337 rfl rfl ?_
  refine r_callS X182 (pc' := 342) at_339 (con_ok l Z a0 hw b35 (10 : Int32) oo nn vv (own_b p4) f g V i n' 10 h131 n0 X182.sz Ag rfl (by decide) hi hi7 hnn n1 n9 hV HE (hs 10 (by decide))) (wd hw 11 rfl) (wd hw 12 rfl) (wd hw 4 rfl) (wd hw 13 rfl) (by decide) (argsL := [(.ref b35), (.int (10 : Int32)), (.int oo), (.int nn), (.long vv), (.int (own_b p4))]) (rest := []) (W := 0) rfl rfl pd_ok rfl rfl (by decide) (by decide) (by decide) (by decide) rfl (fun v184 T185 h186 X187 QQ188 => ?_)
  obtain ⟨rfl, rfl⟩ := QQ188
  show Run p e below _ _ (mkF m 342 #[.val (.long p1), .second, .val (.int p2), .val (.int p3), .val (.int p4), .val (.long vv), .second, .val (.int oo), .val (.int (own_b p4)), .val (.ref b35), .val (.int nn), .val (.int rr)] [(.int (1 : Int32))])
  refine r_ifN X187 (pc2 := 345) at_342 (by decide) rfl (a := 1) (b := 0) rfl rfl (show ¬ (1 = 0) from (by decide)) ?_
  refine r_aload X187 (pc' := 347) at_345 rfl rfl ?_
  refine r_bipush X187 (pc' := 349) (v := (11 : Int32)) at_347 rfl rfl ?_
  refine r_iload X187 (pc' := 351) at_349 rfl rfl ?_
  refine r_iload X187 (pc' := 353) at_351 rfl rfl ?_
  refine r_lload X187 (pc' := 355) at_353 rfl rfl ?_
  refine r_iload X187 (pc' := 357) at_355 rfl rfl ?_
  refine r_callS X187 (pc' := 360) at_357 (con_ok l Z a0 hw b35 (11 : Int32) oo nn vv (own_b p4) f g V i n' 11 h131 n0 X187.sz Ag rfl (by decide) hi hi7 hnn n1 n9 hV HE (hs 11 (by decide))) (wd hw 11 rfl) (wd hw 12 rfl) (wd hw 4 rfl) (wd hw 13 rfl) (by decide) (argsL := [(.ref b35), (.int (11 : Int32)), (.int oo), (.int nn), (.long vv), (.int (own_b p4))]) (rest := []) (W := 0) rfl rfl pd_ok rfl rfl (by decide) (by decide) (by decide) (by decide) rfl (fun v189 T190 h191 X192 QQ193 => ?_)
  obtain ⟨rfl, rfl⟩ := QQ193
  show Run p e below _ _ (mkF m 360 #[.val (.long p1), .second, .val (.int p2), .val (.int p3), .val (.int p4), .val (.long vv), .second, .val (.int oo), .val (.int (own_b p4)), .val (.ref b35), .val (.int nn), .val (.int rr)] [(.int (1 : Int32))])
  refine r_ifN X192 (pc2 := 363) at_360 (by decide) rfl (a := 1) (b := 0) rfl rfl (show ¬ (1 = 0) from (by decide)) ?_
  refine r_aload X192 (pc' := 365) at_363 rfl rfl ?_
  refine r_bipush X192 (pc' := 367) (v := (12 : Int32)) at_365 rfl rfl ?_
  refine r_iload X192 (pc' := 369) at_367 rfl rfl ?_
  refine r_iload X192 (pc' := 371) at_369 rfl rfl ?_
  refine r_lload X192 (pc' := 373) at_371 rfl rfl ?_
  refine r_iload X192 (pc' := 375) at_373 rfl rfl ?_
  refine r_callS X192 (pc' := 378) at_375 (con_ok l Z a0 hw b35 (12 : Int32) oo nn vv (own_b p4) f g V i n' 12 h131 n0 X192.sz Ag rfl (by decide) hi hi7 hnn n1 n9 hV HE (hs 12 (by decide))) (wd hw 11 rfl) (wd hw 12 rfl) (wd hw 4 rfl) (wd hw 13 rfl) (by decide) (argsL := [(.ref b35), (.int (12 : Int32)), (.int oo), (.int nn), (.long vv), (.int (own_b p4))]) (rest := []) (W := 0) rfl rfl pd_ok rfl rfl (by decide) (by decide) (by decide) (by decide) rfl (fun v194 T195 h196 X197 QQ198 => ?_)
  obtain ⟨rfl, rfl⟩ := QQ198
  show Run p e below _ _ (mkF m 378 #[.val (.long p1), .second, .val (.int p2), .val (.int p3), .val (.int p4), .val (.long vv), .second, .val (.int oo), .val (.int (own_b p4)), .val (.ref b35), .val (.int nn), .val (.int rr)] [(.int (1 : Int32))])
  refine r_ifN X197 (pc2 := 381) at_378 (by decide) rfl (a := 1) (b := 0) rfl rfl (show ¬ (1 = 0) from (by decide)) ?_
  refine r_aload X197 (pc' := 383) at_381 rfl rfl ?_
  refine r_bipush X197 (pc' := 385) (v := (13 : Int32)) at_383 rfl rfl ?_
  refine r_iload X197 (pc' := 387) at_385 rfl rfl ?_
  refine r_iload X197 (pc' := 389) at_387 rfl rfl ?_
  refine r_lload X197 (pc' := 391) at_389 rfl rfl ?_
  refine r_iload X197 (pc' := 393) at_391 rfl rfl ?_
  refine r_callS X197 (pc' := 396) at_393 (con_ok l Z a0 hw b35 (13 : Int32) oo nn vv (own_b p4) f g V i n' 13 h131 n0 X197.sz Ag rfl (by decide) hi hi7 hnn n1 n9 hV HE (hs 13 (by decide))) (wd hw 11 rfl) (wd hw 12 rfl) (wd hw 4 rfl) (wd hw 13 rfl) (by decide) (argsL := [(.ref b35), (.int (13 : Int32)), (.int oo), (.int nn), (.long vv), (.int (own_b p4))]) (rest := []) (W := 0) rfl rfl pd_ok rfl rfl (by decide) (by decide) (by decide) (by decide) rfl (fun v199 T200 h201 X202 QQ203 => ?_)
  obtain ⟨rfl, rfl⟩ := QQ203
  show Run p e below _ _ (mkF m 396 #[.val (.long p1), .second, .val (.int p2), .val (.int p3), .val (.int p4), .val (.long vv), .second, .val (.int oo), .val (.int (own_b p4)), .val (.ref b35), .val (.int nn), .val (.int rr)] [(.int (1 : Int32))])
  refine r_ifN X202 (pc2 := 399) at_396 (by decide) rfl (a := 1) (b := 0) rfl rfl (show ¬ (1 = 0) from (by decide)) ?_
  refine r_aload X202 (pc' := 401) at_399 rfl rfl ?_
  refine r_bipush X202 (pc' := 403) (v := (14 : Int32)) at_401 rfl rfl ?_
  refine r_iload X202 (pc' := 405) at_403 rfl rfl ?_
  refine r_iload X202 (pc' := 407) at_405 rfl rfl ?_
  refine r_lload X202 (pc' := 409) at_407 rfl rfl ?_
  refine r_iload X202 (pc' := 411) at_409 rfl rfl ?_
  refine r_callS X202 (pc' := 414) at_411 (con_ok l Z a0 hw b35 (14 : Int32) oo nn vv (own_b p4) f g V i n' 14 h131 n0 X202.sz Ag rfl (by decide) hi hi7 hnn n1 n9 hV HE (hs 14 (by decide))) (wd hw 11 rfl) (wd hw 12 rfl) (wd hw 4 rfl) (wd hw 13 rfl) (by decide) (argsL := [(.ref b35), (.int (14 : Int32)), (.int oo), (.int nn), (.long vv), (.int (own_b p4))]) (rest := []) (W := 0) rfl rfl pd_ok rfl rfl (by decide) (by decide) (by decide) (by decide) rfl (fun v204 T205 h206 X207 QQ208 => ?_)
  obtain ⟨rfl, rfl⟩ := QQ208
  show Run p e below _ _ (mkF m 414 #[.val (.long p1), .second, .val (.int p2), .val (.int p3), .val (.int p4), .val (.long vv), .second, .val (.int oo), .val (.int (own_b p4)), .val (.ref b35), .val (.int nn), .val (.int rr)] [(.int (1 : Int32))])
  refine r_ifN X207 (pc2 := 417) at_414 (by decide) rfl (a := 1) (b := 0) rfl rfl (show ¬ (1 = 0) from (by decide)) ?_
  refine r_aload X207 (pc' := 419) at_417 rfl rfl ?_
  refine r_bipush X207 (pc' := 421) (v := (15 : Int32)) at_419 rfl rfl ?_
  refine r_iload X207 (pc' := 423) at_421 rfl rfl ?_
  refine r_iload X207 (pc' := 425) at_423 rfl rfl ?_
  refine r_lload X207 (pc' := 427) at_425 rfl rfl ?_
  refine r_iload X207 (pc' := 429) at_427 rfl rfl ?_
  refine r_callS X207 (pc' := 432) at_429 (con_ok l Z a0 hw b35 (15 : Int32) oo nn vv (own_b p4) f g V i n' 15 h131 n0 X207.sz Ag rfl (by decide) hi hi7 hnn n1 n9 hV HE (hs 15 (by decide))) (wd hw 11 rfl) (wd hw 12 rfl) (wd hw 4 rfl) (wd hw 13 rfl) (by decide) (argsL := [(.ref b35), (.int (15 : Int32)), (.int oo), (.int nn), (.long vv), (.int (own_b p4))]) (rest := []) (W := 0) rfl rfl pd_ok rfl rfl (by decide) (by decide) (by decide) (by decide) rfl (fun v209 T210 h211 X212 QQ213 => ?_)
  obtain ⟨rfl, rfl⟩ := QQ213
  show Run p e below _ _ (mkF m 432 #[.val (.long p1), .second, .val (.int p2), .val (.int p3), .val (.int p4), .val (.long vv), .second, .val (.int oo), .val (.int (own_b p4)), .val (.ref b35), .val (.int nn), .val (.int rr)] [(.int (1 : Int32))])
  refine r_ifN X212 (pc2 := 435) at_432 (by decide) rfl (a := 1) (b := 0) rfl rfl (show ¬ (1 = 0) from (by decide)) ?_
  refine r_aload X212 (pc' := 437) at_435 rfl rfl ?_
  refine r_bipush X212 (pc' := 439) (v := (16 : Int32)) at_437 rfl rfl ?_
  refine r_iload X212 (pc' := 441) at_439 rfl rfl ?_
  refine r_iload X212 (pc' := 443) at_441 rfl rfl ?_
  refine r_lload X212 (pc' := 445) at_443 rfl rfl ?_
  refine r_iload X212 (pc' := 447) at_445 rfl rfl ?_
  refine r_callS X212 (pc' := 450) at_447 (con_ok l Z a0 hw b35 (16 : Int32) oo nn vv (own_b p4) f g V i n' 16 h131 n0 X212.sz Ag rfl (by decide) hi hi7 hnn n1 n9 hV HE (hs 16 (by decide))) (wd hw 11 rfl) (wd hw 12 rfl) (wd hw 4 rfl) (wd hw 13 rfl) (by decide) (argsL := [(.ref b35), (.int (16 : Int32)), (.int oo), (.int nn), (.long vv), (.int (own_b p4))]) (rest := []) (W := 0) rfl rfl pd_ok rfl rfl (by decide) (by decide) (by decide) (by decide) rfl (fun v214 T215 h216 X217 QQ218 => ?_)
  obtain ⟨rfl, rfl⟩ := QQ218
  show Run p e below _ _ (mkF m 450 #[.val (.long p1), .second, .val (.int p2), .val (.int p3), .val (.int p4), .val (.long vv), .second, .val (.int oo), .val (.int (own_b p4)), .val (.ref b35), .val (.int nn), .val (.int rr)] [(.int (1 : Int32))])
  refine r_ifN X217 (pc2 := 453) at_450 (by decide) rfl (a := 1) (b := 0) rfl rfl (show ¬ (1 = 0) from (by decide)) ?_
  refine r_iconst X217 (pc' := 454) (v := (1 : Int32)) at_453 rfl rfl ?_
  refine r_goto X217 (pc' := 458) at_454 (by decide) (by decide) ?_
  exact r_retN X217 (by simp) at_458 (z := (1 : Int32)) (w := (1 : Int32)) rfl rfl (by decide) (by decide)
set_option maxRecDepth 65536 in
set_option maxHeartbeats 40000000 in
theorem comes_1 {Post : Tables → Env → Array Value → State → Outcome → State → Prop} (hpost : ∀ tb e args s v u, (limb_1_1.after args s (.returned v) u = true ∧ limb_1_2.after args s (.returned v) u = true ∧ True) → FrameEnd s (.returned v) u (Jvm.fieldLocs frame_1_writes args s ++ Jvm.arrayLocs frame_1_arrays args s ++ Jvm.staticLocs frame_1_statics s) 16 128 → Post tb e args s (.returned v) u) :
    ArmFor flags0 classFile x code maxLocals ret World_1 tables_1 room_1 Calls_1 rest_1 Pre_1 Post := by
  intro l hfl _ _ p e ha hc hk s m args below hf hA hF happ hP
  obtain ⟨hcalls, hrest, hpre⟩ := hP
  obtain ⟨-, -, -, hnamed, -, -, -, hat⟩ := (Spec.applies_iff hf).mp happ
  obtain ⟨hg, hn⟩ := and_e (Cond.before_iff.mp (show (Jvm.Cond.and given_1 narrow_1).before args s = true from hpre))
  obtain ⟨gc, gr0⟩ := and_e hg
  obtain ⟨gv0, gr1⟩ := and_e gr0
  obtain ⟨gv1, gr2⟩ := and_e gr1
  obtain ⟨gv2, gr3⟩ := and_e gr2
  obtain ⟨w0, w1, w2, w3, rfl⟩ : ∃ w0 w1 w2 w3 : Value, args = #[w0, w1, w2, w3] := by
    have hs : args.size = 4 := by simpa [Cond.value, given_1] using gc
    obtain ⟨L⟩ := args
    match L, hs with
    | [w0, w1, w2, w3], _ => exact ⟨w0, w1, w2, w3, rfl⟩
  have hw := fun d (hd : d ∈ tables_1) => atoms_spec (ws := Jvm.Cond.code x code maxLocals ret :: tables_1) hat d (List.mem_cons_of_mem _ hd)
  obtain ⟨i0, ei0⟩ := isL_v gv0
  obtain rfl : w0 = (.long i0) := Option.some.inj ei0
  obtain ⟨i1, ei1⟩ := is_v gv1
  obtain rfl : w1 = (.int i1) := Option.some.inj ei1
  obtain ⟨i2, ei2⟩ := is_v gv2
  obtain rfl : w2 = (.int i2) := Option.some.inj ei2
  obtain ⟨i3, ei3⟩ := is_v gr3
  obtain rfl : w3 = (.int i3) := Option.some.inj ei3
  obtain ⟨n, o, h1, h2, h3, _, L, rfl, ⟨rfl, -, N⟩, hq⟩ := con_law l s _ hw i0 i1 i2 i3 s.heap s.heap.size (Nat.le_refl _) tables_1 p e ha hc hk s m _ below hf ((Spec.applies_iff_loose hf).mp happ).1 ⟨rfl, State.Warmed39.refl s, rfl⟩ trivial
  refine ⟨n, _, h1, h2, h3, hpost _ _ _ _ _ _ ⟨Cond.after_iff.mpr rfl, Cond.after_iff.mpr (eq_i res_at (Term.int_eval (1)) rfl), trivial⟩ ⟨hq.1, hq.2.1, (hq.2.2.sift fun y hy => Or.inr (N y hy)).mono (by decide) (by decide)⟩⟩
theorem main_1_1 : Claimed_1_1 := comes_1 fun _ _ _ _ _ _ h hF => ⟨h.1, hF⟩
theorem main_1_2 : Claimed_1_2 := comes_1 fun _ _ _ _ _ _ h hF => ⟨h.2.1, hF⟩
end Jvm.Pilot.@@N@@
namespace Jvm.Pilot.@@N@@
open Jvm Jvm.ClassFile Sem Op Lib Jvm.Free Jvm.Stand Jvm.Pilot.@@N@@.Jvm.D
/-! MADE BY PROGRAM (witnessworld.py) out of the Statement's table words and the real class files: 9 classes; the members and pool entries that the words name. The judged class is class 1, her method 3. -/
namespace start1
open Jvm.ClassFile
def u (s : String) : CpInfo := .utf8 (stringToUtf16 s)
/-- a pool by its gaps: so many unusable entries, then the entry; so many at the end -/
def gap : Nat → List CpInfo → List CpInfo
  | 0, r => r
  | n + 1, r => .unusable :: gap n r
def poolList (es : List (Nat × CpInfo)) (last : Nat) : List CpInfo := es.foldr (fun e r => gap e.1 (e.2 :: r)) (gap last [])
def pool (es : List (Nat × CpInfo)) (last : Nat) : Array CpInfo := ⟨poolList es last⟩
def fileOf (pool : Array CpInfo) (this : Nat) (attrs : Array Attribute := #[]) (ms : Array MethodInfo := #[]) (fl : Nat := 33) (sup : Nat := 0) (ifs : Array Nat := #[]) (fds : Array FieldInfo := #[]) : ClassFile where
  minorVersion := 0
  majorVersion := 65
  constantPool := pool
  accessFlags := fl
  thisClass := this
  superClass := sup
  interfaces := ifs
  fields := fds
  methods := ms
  attributes := attrs
def plain (name : String) (sup : Option ClassId) : Class where
  name := name
  kind := .ordinary
  loader := none
  accessFlags := 33
  super := sup
  interfaces := #[]
  cf := none
  fields := #[]
  methods := #[]
  instanceTypes := #[]
  staticTypes := #[]
  resolved := #[]
  callSites := []
  init := .initialized
  statics := none
  mirror := none

def pool0 : Array CpInfo := pool [(5, u "<init>"), (0, u "()V"), (1, .class_ 10), (1, u "java/lang/Object")] 113

def k0m0 : Method := { name := "<init>", desc := "()V", sig := { parameters := [], returnType := none }, accessFlags := 1, code := none }
/-- java/lang/Object -/
def k0 : Class := { plain "java/lang/Object" none with
  accessFlags := 33
  interfaces := #[]
  cf := some (fileOf pool0 8 #[] #[{ accessFlags := 1, nameIndex := 5, descriptorIndex := 6, attributes := #[] }] 33 0 #[] #[])
  fields := #[]
  methods := #[k0m0]
  instanceTypes := #[]
  staticTypes := #[]
  resolved := Array.replicate 124 none
  statics := none }

def pool1 : Array CpInfo := pool [(2, .class_ 4), (1, u "java/lang/Object"), (0, u "<init>"), (0, u "()V"), (0, .long 127), (3, .long 9223372036854775807), (1, .methodref 14 15), (0, .class_ 16), (0, .nameAndType 17 18), (0, u "com/example/unigram_query_likelihood/unigramquerylikelihood/index/VarintPutPinLaw"), (0, u "len"), (0, u "(J)I"), (0, .methodref 20 21), (0, .class_ 22), (0, .nameAndType 23 24), (0, u "com/example/unigram_query_likelihood/unigramquerylikelihood/index/Varint"), (0, u "put"), (0, u "([BIJ)I"), (0, .methodref 14 26), (0, .nameAndType 27 28), (0, u "ok"), (0, u "([BIIIJB)Z"), (3, u "law"), (0, u "(JIII)Z")] 4

def k1m0 : Method := { name := "<init>", desc := "()V", sig := { parameters := [], returnType := none }, accessFlags := 1, code := none }
def k1c1 : Code := { maxStack := 4, maxLocals := 2, code := method_2_code, exceptionTable := #[], attributes := #[] }
def k1m1 : Method := { name := "len", desc := "(J)I", sig := { parameters := [.long], returnType := some .int }, accessFlags := 10, code := some k1c1 }
def k1c2 : Code := { maxStack := 4, maxLocals := 9, code := method_3_code, exceptionTable := #[], attributes := #[] }
def k1m2 : Method := { name := "ok", desc := "([BIIIJB)Z", sig := { parameters := [(.array .byte), .int, .int, .int, .long, .byte], returnType := some .boolean }, accessFlags := 10, code := some k1c2 }
def k1c3 : Code := { maxStack := 7, maxLocals := 12, code := code, exceptionTable := #[], attributes := #[] }
def k1m3 : Method := { name := "law", desc := "(JIII)Z", sig := { parameters := [.long, .int, .int, .int], returnType := some .boolean }, accessFlags := 9, code := some k1c3 }
/-- com/example/unigram_query_likelihood/unigramquerylikelihood/index/VarintPutPinLaw -/
def k1 : Class := { plain "com/example/unigram_query_likelihood/unigramquerylikelihood/index/VarintPutPinLaw" (some 0) with
  accessFlags := 49
  interfaces := #[]
  cf := some (fileOf pool1 14 #[] #[{ accessFlags := 1, nameIndex := 5, descriptorIndex := 6, attributes := #[] }, { accessFlags := 10, nameIndex := 17, descriptorIndex := 18, attributes := #[] }, { accessFlags := 10, nameIndex := 27, descriptorIndex := 28, attributes := #[] }, { accessFlags := 9, nameIndex := 32, descriptorIndex := 33, attributes := #[] }] 49 2 #[] #[])
  fields := #[]
  methods := #[k1m0, k1m1, k1m2, k1m3]
  instanceTypes := #[]
  staticTypes := #[]
  resolved := Array.replicate 38 none
  statics := none }

def pool2 : Array CpInfo := pool [(2, .class_ 4), (1, u "java/lang/Object"), (0, u "<init>"), (0, u "()V"), (0, .long 18446744073709551488), (1, .long 128), (7, .class_ 18), (0, u "com/example/unigram_query_likelihood/unigramquerylikelihood/index/Varint"), (11, u "MAX_LENGTH"), (0, u "I"), (7, u "put"), (0, u "([BIJ)I"), (8, .class_ 50), (0, u "com/example/unigram_query_likelihood/unigramquerylikelihood/index/Varint$ArrayReader")] 2

def k2m0 : Method := { name := "<init>", desc := "()V", sig := { parameters := [], returnType := none }, accessFlags := 2, code := none }
def k2c1 : Code := { maxStack := 6, maxLocals := 4, code := prog_83_method_3_code, exceptionTable := #[], attributes := #[] }
def k2m1 : Method := { name := "put", desc := "([BIJ)I", sig := { parameters := [(.array .byte), .int, .long], returnType := some .int }, accessFlags := 8, code := some k2c1 }
/-- com/example/unigram_query_likelihood/unigramquerylikelihood/index/Varint -/
def k2 : Class := { plain "com/example/unigram_query_likelihood/unigramquerylikelihood/index/Varint" (some 0) with
  accessFlags := 32
  interfaces := #[]
  cf := some (fileOf pool2 17 #[.nestMembers #[49]] #[{ accessFlags := 2, nameIndex := 5, descriptorIndex := 6, attributes := #[] }, { accessFlags := 8, nameIndex := 39, descriptorIndex := 40, attributes := #[] }] 32 2 #[] #[{ accessFlags := 24, nameIndex := 30, descriptorIndex := 31, attributes := #[] }])
  fields := #[{ name := "MAX_LENGTH", type := .int, accessFlags := 24, slot := 0, constantValue := 0 }]
  methods := #[k2m0, k2m1]
  instanceTypes := #[]
  staticTypes := #[.int]
  resolved := Array.replicate 53 none
  statics := none }

def pool3 : Array CpInfo := pool [(1, u "java/lang/Cloneable"), (0, .class_ 1), (0, u "java/lang/Object"), (0, .class_ 3)] 3

/-- java/lang/Cloneable -/
def k3 : Class := { plain "java/lang/Cloneable" (some 0) with
  accessFlags := 1537
  interfaces := #[]
  cf := some (fileOf pool3 2 #[] #[] 1537 4 #[] #[])
  fields := #[]
  methods := #[]
  instanceTypes := #[]
  staticTypes := #[]
  resolved := Array.replicate 8 none
  statics := none }

def pool4 : Array CpInfo := pool [(1, u "java/io/Serializable"), (0, .class_ 1), (0, u "java/lang/Object"), (0, .class_ 3)] 3

/-- java/io/Serializable -/
def k4 : Class := { plain "java/io/Serializable" (some 0) with
  accessFlags := 1537
  interfaces := #[]
  cf := some (fileOf pool4 2 #[] #[] 1537 4 #[] #[])
  fields := #[]
  methods := #[]
  instanceTypes := #[]
  staticTypes := #[]
  resolved := Array.replicate 8 none
  statics := none }

/-- the primitive byte -/
def k5 : Class := { plain "byte" none with kind := .primitive 'B', accessFlags := 0x411 }
/-- [B -/
def k6 : Class := { plain "[B" (some 0) with kind := .array 5 .byte, interfaces := #[3, 4], accessFlags := 1041 }

/-- the primitive int -/
def k7 : Class := { plain "int" none with kind := .primitive 'I', accessFlags := 0x411 }
/-- [I -/
def k8 : Class := { plain "[I" (some 0) with kind := .array 7 .int, interfaces := #[3, 4], accessFlags := 1041 }

def heap : Heap := #[]
def classes : Array Class := #[k0, k1, k2, k3, k4, k5, k6, k7, k8]
def interned : List (Array UInt16 × Addr) := []
def slotsUsed : Nat := 0
def theMethod : MethodId := ⟨1, 3⟩
def args0 : Array Value := #[.long 5, .int 5, .int 5, .int 5]
def aboutOver (below : List Frame) : State where
  vm := { classes := classes, interned := interned.toArray }
  heap := heap
  slotsUsed := slotsUsed
  threads := #[{ frames := .invoking theMethod args0 :: below }]
def below0 : List Frame := [.native { method := ⟨0, 0⟩, args := #[] }]
def about1 : State := aboutOver below0
def p0 : Program := .bare "" "" ""
def e0 : Env := launch0.env 0 0 0
theorem w_frames : about1.frames = Frame.invoking theMethod args0 :: below0 := rfl
set_option maxRecDepth 65536 in
theorem w_args : argsFit about1.vm theMethod args0 = true := by decide +kernel
set_option maxRecDepth 65536 in
theorem w_heap : heapFits about1 = true := by decide +kernel
set_option maxRecDepth 65536 in
theorem w_runnable : about1.curStatus? = some .runnable := by decide +kernel
set_option maxRecDepth 65536 in
theorem w_alone : about1.alone = true := by decide +kernel
set_option maxRecDepth 65536 in
theorem w_named : about1.methodNamed? x = some theMethod := by decide +kernel
set_option maxRecDepth 65536 in
theorem w_hears : about1.hears theMethod below0 = true := by decide +kernel
set_option maxRecDepth 65536 in
theorem w_ripe : about1.ripe theMethod args0 below0 = true := by decide +kernel
theorem w_running : about1.status = .running := rfl
set_option maxRecDepth 65536 in
theorem w_room : about1.hasRoom e0.platform room_1 = true :=
  launch0.hasRoom_least _ room_1 (by decide +kernel) (by decide +kernel) (by decide +kernel) (by decide +kernel) (by decide +kernel) (by decide +kernel)
theorem allAtoms_all (ts : List Jvm.Cond) (a : Array Jvm.Value) (st : Jvm.State) : (allAtoms ts).before a st = ts.all (fun c => c.before a st) := by
  induction ts with
  | nil => rfl
  | cons c t ih =>
    show (Jvm.Cond.and c (allAtoms t)).before a st = _
    rw [Jvm.Cond.before_and, ih, List.all_cons]
def words1 : List Jvm.Cond := Jvm.Cond.code x code maxLocals ret :: tables_1
/-- a 'code' word, met by the world's own term for the bytes: nothing is compared byte by byte -/
theorem code_word {y : MethodName} {bytes : ByteArray} {mx : Nat} {rt : Option FieldType} {a : Array Value} {s : State} {m : MethodId} {meth : Method} {c : Code} (h1 : s.methodNamed? y = some m) (h2 : s.vm.method? m = some meth) (h3 : meth.code = some c) (h4 : c.code = bytes)
    (h5 : (c.maxLocals == mx && c.exceptionTable.isEmpty && decide (c.maxStack ≤ mostOperands) && decide (meth.sig.returnType = rt) && !meth.locks && decide (parseMethodDescriptor y.desc = some meth.sig)) = true) : (Jvm.Cond.code y bytes mx rt).before a s = true := by
  simp only [Bool.and_eq_true, beq_iff_eq, Bool.not_eq_true', decide_eq_true_eq] at h5
  obtain ⟨⟨⟨⟨⟨g1, g2⟩, g3⟩, g4⟩, g5⟩, g6⟩ := h5
  simp [Cond.before, Cond.holds, Cond.value, h1, h2, h3, h4, g1, g2, g3, g4, g5, g6]
def isCode : Jvm.Cond → Bool
  | .code _ _ _ _ => true
  | _ => false
theorem all_split {L : List Jvm.Cond} {P : Jvm.Cond → Bool} (h1 : L.all (fun c => isCode c || P c) = true) (h2 : ∀ c ∈ L.filter isCode, P c = true) : L.all P = true := by
  refine List.all_eq_true.mpr fun c hc => ?_
  have h := List.all_eq_true.mp h1 c hc
  rcases Bool.eq_false_or_eq_true (isCode c) with hi | hi
  · exact h2 c (List.mem_filter.mpr ⟨hc, hi⟩)
  · simpa [hi] using h
set_option maxRecDepth 65536 in
theorem w_c0 : (Jvm.Cond.code x code maxLocals ret).before args0 about1 = true := code_word (m := ⟨1, 3⟩) (meth := k1m3) (c := k1c3) (by decide +kernel) rfl rfl rfl (by decide +kernel)
set_option maxRecDepth 65536 in
theorem w_c1 : (Jvm.Cond.code ({ cls := "com/example/unigram_query_likelihood/unigramquerylikelihood/index/VarintPutPinLaw", name := "len", desc := "(J)I" } : Jvm.MethodName) method_2_code (2 : Nat) (Option.some Jvm.ClassFile.FieldType.int)).before args0 about1 = true := code_word (m := ⟨1, 1⟩) (meth := k1m1) (c := k1c1) (by decide +kernel) rfl rfl rfl (by decide +kernel)
set_option maxRecDepth 65536 in
theorem w_c2 : (Jvm.Cond.code ({ cls := "com/example/unigram_query_likelihood/unigramquerylikelihood/index/Varint", name := "put", desc := "([BIJ)I" } : Jvm.MethodName) prog_83_method_3_code (4 : Nat) (Option.some Jvm.ClassFile.FieldType.int)).before args0 about1 = true := code_word (m := ⟨2, 1⟩) (meth := k2m1) (c := k2c1) (by decide +kernel) rfl rfl rfl (by decide +kernel)
set_option maxRecDepth 65536 in
theorem w_c3 : (Jvm.Cond.code ({ cls := "com/example/unigram_query_likelihood/unigramquerylikelihood/index/VarintPutPinLaw", name := "ok", desc := "([BIIIJB)Z" } : Jvm.MethodName) method_3_code (9 : Nat) (Option.some Jvm.ClassFile.FieldType.boolean)).before args0 about1 = true := code_word (m := ⟨1, 2⟩) (meth := k1m2) (c := k1c2) (by decide +kernel) rfl rfl rfl (by decide +kernel)
def codes1 : List Jvm.Cond := [Jvm.Cond.code x code maxLocals ret, Jvm.Cond.code ({ cls := "com/example/unigram_query_likelihood/unigramquerylikelihood/index/VarintPutPinLaw", name := "len", desc := "(J)I" } : Jvm.MethodName) method_2_code (2 : Nat) (Option.some Jvm.ClassFile.FieldType.int), Jvm.Cond.code ({ cls := "com/example/unigram_query_likelihood/unigramquerylikelihood/index/Varint", name := "put", desc := "([BIJ)I" } : Jvm.MethodName) prog_83_method_3_code (4 : Nat) (Option.some Jvm.ClassFile.FieldType.int), Jvm.Cond.code ({ cls := "com/example/unigram_query_likelihood/unigramquerylikelihood/index/VarintPutPinLaw", name := "ok", desc := "([BIIIJB)Z" } : Jvm.MethodName) method_3_code (9 : Nat) (Option.some Jvm.ClassFile.FieldType.boolean)]
set_option maxRecDepth 65536 in
theorem codes_eq : words1.filter isCode = codes1 := rfl
theorem w_codes : ∀ c ∈ words1.filter isCode, c.before args0 about1 = true := by
  rw [codes_eq]
  intro c hc
  simp only [codes1, List.mem_cons, List.not_mem_nil, or_false] at hc
  rcases hc with rfl | rfl | rfl | rfl
  · exact w_c0
  · exact w_c1
  · exact w_c2
  · exact w_c3
set_option maxRecDepth 65536 in
theorem w_t1 : words1.all (fun c => isCode c || c.before args0 about1) = true := by decide +kernel
theorem w_tables : (allAtoms (Jvm.Cond.code x code maxLocals ret :: tables_1)).before args0 about1 = true := by
  rw [allAtoms_all]
  show words1.all (fun c => c.before args0 about1) = true
  refine all_split ?_ w_codes
  rw [w_t1]
set_option maxRecDepth 65536 in
theorem w_case : (Jvm.Cond.and given_1 narrow_1).before args0 about1 = true := by decide +kernel
theorem w_applies : (headSpec (Jvm.Cond.code x code maxLocals ret :: tables_1) room_1).applies x e0.platform about1 = true :=
  (Spec.applies_iff w_frames).mpr ⟨w_running, w_runnable, w_alone, w_named, w_hears, w_ripe, w_room, w_tables⟩
theorem atStart : AtStart classFile x code maxLocals ret World_1 tables_1 room_1 Calls_1 rest_1 Pre_1 launch0 p0 e0 about1 theMethod args0 below0 :=
  ⟨lists_1, trivial, launch0.admits_env _ _ _, launch0.least_env, fairChoices_fair.cas, fairChoices_fair.clock, w_frames, w_args, w_heap, w_applies, trivial, trivial, w_case⟩
end start1
theorem witness_1 : WitnessClaimed_1 := ⟨start1.p0, start1.e0, start1.about1, start1.theMethod, start1.args0, start1.below0, start1.atStart⟩
end Jvm.Pilot.@@N@@
