import JvmDerived
import JvmDerived.Pilot.@@N@@Statement
import JvmDerived.Pilot.@@N@@Code
set_option linter.unusedVariables false
set_option linter.unusedSimpArgs false
namespace Jvm.Pilot.@@N@@
namespace W
open Jvm Jvm.ClassFile Sem Op Lib Jvm.Free Jvm.Stand Jvm.LawKit Jvm.RoadKit Bundle
/-- from U the run comes to an end that says G -/
def Go (tb : Tables) (e : Env) (below : List Frame) (G : Outcome → State → Prop) (U : State) : Prop := ∃ s₂ o, Steps tb e below U s₂ ∧ s₂.status = .running ∧ Ended s₂ below o ∧ G o s₂
theorem Go.via {tb : Tables} {e : Env} {below : List Frame} {G : Outcome → State → Prop} {U V : State} (f : ∀ t, Steps tb e below V t → Steps tb e below U t) (k : Go tb e below G V) : Go tb e below G U := by
  obtain ⟨s₂, o, h1, h⟩ := k; exact ⟨s₂, o, f _ h1, h⟩
theorem Go.tr {tb : Tables} {e : Env} {below : List Frame} {G : Outcome → State → Prop} {U V : State} (f : Steps tb e below U V) (k : Go tb e below G V) : Go tb e below G U := by
  obtain ⟨s₂, o, h1, h⟩ := k; exact ⟨s₂, o, f.trans h1, h⟩
/-- what a comparison of two ints says -/
abbrev cv (cd : ClassFile.Cond) (a b : Int32) : Prop := match cd with
  | .eq => a = b
  | .ne => ¬ a = b
  | .lt => a < b
  | .ge => ¬ a < b
  | .gt => b < a
  | .le => ¬ b < a
theorem cvY {cd : ClassFile.Cond} {a b : Int32} (q : cv cd a b) : if_icmp.holds cd a b = true := by
  cases cd
  · exact (teq q).1
  · exact (feq q).2
  · exact (tlt q).1
  · exact (flt q).2.1
  · exact (tlt q).2.2.1
  · exact (flt q).2.2.2
theorem cvN {cd : ClassFile.Cond} {a b : Int32} (q : ¬ cv cd a b) : if_icmp.holds cd a b = false := by
  cases cd
  · exact (feq q).1
  · exact (teq (Decidable.byContradiction q)).2
  · exact (flt q).1
  · exact (tlt (Decidable.byContradiction q)).2.1
  · exact (flt q).2.2.1
  · exact (tlt (Decidable.byContradiction q)).2.2.2
theorem cvD (cd : ClassFile.Cond) (a b : Int32) : cv cd a b ∨ ¬ cv cd a b := Classical.em _
abbrev Q0 (p : Program) (T : State) (m : MethodId) (c : Code) (below : List Frame) (code : ByteArray) : Prop := At T m c below ∧ p.tables.exec = Jvm.exec ∧ c.code = code
theorem catR {v : Value} (h : v.isRef = true) : v.category = 1 := by cases v <;> first | rfl | cases h
theorem stR {ls ls2 : Array Slot} {k : Nat} {v : Value} {o : Slot} (hv : v.isRef = true) (hold : ls[k]? = some o) (ho : One o) (h2 : ls.setIfInBounds k (.val v) = ls2) : storeLocals ls k v = some ls2 := by
  rw [← h2]; exact Jvm.Free.XS.store1 hold ho (catR hv)
section Plain
variable {p : Program} {e : Env} {below : List Frame} {G : Outcome → State → Prop} {T : State} {m : MethodId} {c : Code} {code : ByteArray} {pc pc1 pc2 : Nat} {ls ls2 : Array Slot} {st : List Value}

theorem g_iloadN (q : Q0 p T m c below code) {k : Fin 4} {v : Int32} (hd : decode code pc = .ok (.iload_n k, 1)) (hl : ls[k.val]? = some (.val (.int v))) (hp : pc + 1 = pc1) (K : Go p.tables e below G (T.setTop (mkF m pc1 ls (.int v :: st)))) : Go p.tables e below G (T.setTop (mkF m pc ls st)) := by
  subst hp; exact Go.via (fun _ k => Jvm.Free.XS.iloadN q.1 q.2.1 rfl (hb q.2.2 hd) hl k) K
theorem g_aloadN (q : Q0 p T m c below code) {k : Fin 4} {v : Value} (hd : decode code pc = .ok (.aload_n k, 1)) (hl : ls[k.val]? = some (.val v)) (hv : v.isRef = true) (hp : pc + 1 = pc1) (K : Go p.tables e below G (T.setTop (mkF m pc1 ls (v :: st)))) : Go p.tables e below G (T.setTop (mkF m pc ls st)) := by
  subst hp; exact Go.via (fun _ k => Jvm.Free.XS.aloadN q.1 q.2.1 rfl (hb q.2.2 hd) hl hv k) K
theorem g_istoreN (q : Q0 p T m c below code) {k : Fin 4} {v : Int32} (hd : decode code pc = .ok (.istore_n k, 1)) (hl : storeLocals ls k.val (.int v) = some ls2) (hp : pc + 1 = pc1) (K : Go p.tables e below G (T.setTop (mkF m pc1 ls2 st))) : Go p.tables e below G (T.setTop (mkF m pc ls (.int v :: st))) := by
  subst hp; exact Go.via (fun _ k => Jvm.Free.XS.istoreN q.1 q.2.1 rfl (hb q.2.2 hd) rfl hl k) K
theorem g_astoreN (q : Q0 p T m c below code) {k : Fin 4} {v : Value} (hd : decode code pc = .ok (.astore_n k, 1)) (hv : v.isRef = true) (hl : storeLocals ls k.val v = some ls2) (hp : pc + 1 = pc1) (K : Go p.tables e below G (T.setTop (mkF m pc1 ls2 st))) : Go p.tables e below G (T.setTop (mkF m pc ls (v :: st))) := by
  subst hp; exact Go.via (fun _ k => Jvm.Free.XS.astoreN q.1 q.2.1 rfl (hb q.2.2 hd) rfl hv hl k) K
theorem g_lloadN (q : Q0 p T m c below code) {k : Fin 4} {v : Int64} (hd : decode code pc = .ok (.lload_n k, 1)) (hl : ls[k.val]? = some (.val (.long v))) (hp : pc + 1 = pc1) (K : Go p.tables e below G (T.setTop (mkF m pc1 ls (.long v :: st)))) : Go p.tables e below G (T.setTop (mkF m pc ls st)) := by
  subst hp; exact Go.via (fun _ k => Jvm.Free.XT.lloadN q.1 q.2.1 rfl (hb q.2.2 hd) hl k) K
theorem g_lstoreN (q : Q0 p T m c below code) {k : Fin 4} {v : Int64} (hd : decode code pc = .ok (.lstore_n k, 1)) (hl : storeLocals ls k.val (.long v) = some ls2) (hp : pc + 1 = pc1) (K : Go p.tables e below G (T.setTop (mkF m pc1 ls2 st))) : Go p.tables e below G (T.setTop (mkF m pc ls (.long v :: st))) := by
  subst hp; exact Go.via (fun _ k => Jvm.Free.XT.lstoreN q.1 q.2.1 rfl (hb q.2.2 hd) rfl hl k) K
theorem g_iload (q : Q0 p T m c below code) {k : Nat} {v : Int32} (hd : decode code pc = .ok (.iload k, 2)) (hl : ls[k]? = some (.val (.int v))) (hp : pc + 2 = pc1) (K : Go p.tables e below G (T.setTop (mkF m pc1 ls (.int v :: st)))) : Go p.tables e below G (T.setTop (mkF m pc ls st)) := by
  subst hp; exact Go.via (fun _ k => Jvm.Free.XS.iload q.1 q.2.1 rfl (hb q.2.2 hd) hl k) K
theorem g_aload (q : Q0 p T m c below code) {k : Nat} {v : Value} (hd : decode code pc = .ok (.aload k, 2)) (hl : ls[k]? = some (.val v)) (hv : v.isRef = true) (hp : pc + 2 = pc1) (K : Go p.tables e below G (T.setTop (mkF m pc1 ls (v :: st)))) : Go p.tables e below G (T.setTop (mkF m pc ls st)) := by
  subst hp; exact Go.via (fun _ k => Jvm.Free.XS.aload q.1 q.2.1 rfl (hb q.2.2 hd) hl hv k) K
theorem g_istore (q : Q0 p T m c below code) {k : Nat} {v : Int32} (hd : decode code pc = .ok (.istore k, 2)) (hl : storeLocals ls k (.int v) = some ls2) (hp : pc + 2 = pc1) (K : Go p.tables e below G (T.setTop (mkF m pc1 ls2 st))) : Go p.tables e below G (T.setTop (mkF m pc ls (.int v :: st))) := by
  subst hp; exact Go.via (fun _ k => Jvm.Free.XS.istore q.1 q.2.1 rfl (hb q.2.2 hd) rfl hl k) K
theorem g_astore (q : Q0 p T m c below code) {k : Nat} {v : Value} (hd : decode code pc = .ok (.astore k, 2)) (hv : v.isRef = true) (hl : storeLocals ls k v = some ls2) (hp : pc + 2 = pc1) (K : Go p.tables e below G (T.setTop (mkF m pc1 ls2 st))) : Go p.tables e below G (T.setTop (mkF m pc ls (v :: st))) := by
  subst hp; exact Go.via (fun _ k => Jvm.Free.XS.astore q.1 q.2.1 rfl (hb q.2.2 hd) rfl hv hl k) K
theorem g_lload (q : Q0 p T m c below code) {k : Nat} {v : Int64} (hd : decode code pc = .ok (.lload k, 2)) (hl : ls[k]? = some (.val (.long v))) (hp : pc + 2 = pc1) (K : Go p.tables e below G (T.setTop (mkF m pc1 ls (.long v :: st)))) : Go p.tables e below G (T.setTop (mkF m pc ls st)) := by
  subst hp; exact Go.via (fun _ k => Jvm.Free.XT.lload q.1 q.2.1 rfl (hb q.2.2 hd) hl k) K
theorem g_lstore (q : Q0 p T m c below code) {k : Nat} {v : Int64} (hd : decode code pc = .ok (.lstore k, 2)) (hl : storeLocals ls k (.long v) = some ls2) (hp : pc + 2 = pc1) (K : Go p.tables e below G (T.setTop (mkF m pc1 ls2 st))) : Go p.tables e below G (T.setTop (mkF m pc ls (.long v :: st))) := by
  subst hp; exact Go.via (fun _ k => Jvm.Free.XT.lstore q.1 q.2.1 rfl (hb q.2.2 hd) rfl hl k) K
theorem g_iconst (q : Q0 p T m c below code) {i : Int} {v : Int32} (hd : decode code pc = .ok (.iconst i, 1)) (hv : Int32.ofInt i = v) (hp : pc + 1 = pc1) (K : Go p.tables e below G (T.setTop (mkF m pc1 ls (.int v :: st)))) : Go p.tables e below G (T.setTop (mkF m pc ls st)) := by
  subst hp; exact Go.via (fun _ k => Jvm.Free.XS.iconst q.1 q.2.1 rfl (hb q.2.2 hd) (hv ▸ k)) K
theorem g_bipush (q : Q0 p T m c below code) {i : Int} {v : Int32} (hd : decode code pc = .ok (.bipush i, 2)) (hv : (Int8.ofInt i).toInt32 = v) (hp : pc + 2 = pc1) (K : Go p.tables e below G (T.setTop (mkF m pc1 ls (.int v :: st)))) : Go p.tables e below G (T.setTop (mkF m pc ls st)) := by
  subst hp; exact Go.via (fun _ k => Jvm.Free.XS.bipush q.1 q.2.1 rfl (hb q.2.2 hd) (hv ▸ k)) K
theorem g_sipush (q : Q0 p T m c below code) {i : Int} {v : Int32} (hd : decode code pc = .ok (.sipush i, 3)) (hv : (Int16.ofInt i).toInt32 = v) (hp : pc + 3 = pc1) (K : Go p.tables e below G (T.setTop (mkF m pc1 ls (.int v :: st)))) : Go p.tables e below G (T.setTop (mkF m pc ls st)) := by
  subst hp; exact Go.via (fun _ k => Jvm.Free.XS.sipush q.1 q.2.1 rfl (hb q.2.2 hd) (hv ▸ k)) K
theorem g_null (q : Q0 p T m c below code)  (hd : decode code pc = .ok (.aconst_null, 1))  (hp : pc + 1 = pc1) (K : Go p.tables e below G (T.setTop (mkF m pc1 ls (.null :: st)))) : Go p.tables e below G (T.setTop (mkF m pc ls st)) := by
  subst hp; exact Go.via (fun _ k => Jvm.Free.XS.aconstNull q.1 q.2.1 rfl (hb q.2.2 hd) k) K
theorem g_iadd (q : Q0 p T m c below code) {x y : Int32} (hd : decode code pc = .ok (.iadd, 1))  (hp : pc + 1 = pc1) (K : Go p.tables e below G (T.setTop (mkF m pc1 ls (.int (x + y) :: st)))) : Go p.tables e below G (T.setTop (mkF m pc ls (.int y :: .int x :: st))) := by
  subst hp; exact Go.via (fun _ k => Jvm.Free.XS.iadd q.1 q.2.1 rfl (hb q.2.2 hd) rfl k) K
theorem g_isub (q : Q0 p T m c below code) {x y : Int32} (hd : decode code pc = .ok (.isub, 1))  (hp : pc + 1 = pc1) (K : Go p.tables e below G (T.setTop (mkF m pc1 ls (.int (x - y) :: st)))) : Go p.tables e below G (T.setTop (mkF m pc ls (.int y :: .int x :: st))) := by
  subst hp; exact Go.via (fun _ k => Jvm.Free.XS.isub q.1 q.2.1 rfl (hb q.2.2 hd) rfl k) K
theorem g_iand (q : Q0 p T m c below code) {x y : Int32} (hd : decode code pc = .ok (.iand, 1))  (hp : pc + 1 = pc1) (K : Go p.tables e below G (T.setTop (mkF m pc1 ls (.int (x &&& y) :: st)))) : Go p.tables e below G (T.setTop (mkF m pc ls (.int y :: .int x :: st))) := by
  subst hp; exact Go.via (fun _ k => Jvm.Free.XS.iand q.1 q.2.1 rfl (hb q.2.2 hd) rfl k) K
theorem g_imul (q : Q0 p T m c below code) {x y : Int32} (hd : decode code pc = .ok (.imul, 1))  (hp : pc + 1 = pc1) (K : Go p.tables e below G (T.setTop (mkF m pc1 ls (.int (x * y) :: st)))) : Go p.tables e below G (T.setTop (mkF m pc ls (.int y :: .int x :: st))) := by
  subst hp; exact Go.via (fun _ k => Jvm.Free.XS.imul q.1 q.2.1 rfl (hb q.2.2 hd) rfl k) K
theorem g_irem (q : Q0 p T m c below code) {x y : Int32} (hd : decode code pc = .ok (.irem, 1)) (hy : y ≠ 0) (hp : pc + 1 = pc1) (K : Go p.tables e below G (T.setTop (mkF m pc1 ls (.int (x - (x / y) * y) :: st)))) : Go p.tables e below G (T.setTop (mkF m pc ls (.int y :: .int x :: st))) := by
  subst hp; exact Go.via (fun _ k => Jvm.Free.XS.irem q.1 q.2.1 rfl (hb q.2.2 hd) rfl hy k) K
theorem g_idiv (q : Q0 p T m c below code) {x y : Int32} (hd : decode code pc = .ok (.idiv, 1)) (hy : y ≠ 0) (hp : pc + 1 = pc1) (K : Go p.tables e below G (T.setTop (mkF m pc1 ls (.int (x / y) :: st)))) : Go p.tables e below G (T.setTop (mkF m pc ls (.int y :: .int x :: st))) := by
  subst hp; exact Go.via (fun _ k => Jvm.Free.XS.idiv q.1 q.2.1 rfl (hb q.2.2 hd) rfl hy k) K
theorem g_ineg (q : Q0 p T m c below code) {x : Int32} (hd : decode code pc = .ok (.ineg, 1))  (hp : pc + 1 = pc1) (K : Go p.tables e below G (T.setTop (mkF m pc1 ls (.int (-x) :: st)))) : Go p.tables e below G (T.setTop (mkF m pc ls (.int x :: st))) := by
  subst hp; exact Go.via (fun _ k => Jvm.Free.XS.ineg q.1 q.2.1 rfl (hb q.2.2 hd) rfl k) K
theorem g_ior (q : Q0 p T m c below code) {x y : Int32} (hd : decode code pc = .ok (.ior, 1))  (hp : pc + 1 = pc1) (K : Go p.tables e below G (T.setTop (mkF m pc1 ls (.int (x ||| y) :: st)))) : Go p.tables e below G (T.setTop (mkF m pc ls (.int y :: .int x :: st))) := by
  subst hp; exact Go.via (fun _ k => Jvm.Free.XT.ior q.1 q.2.1 rfl (hb q.2.2 hd) rfl k) K
theorem g_ixor (q : Q0 p T m c below code) {x y : Int32} (hd : decode code pc = .ok (.ixor, 1))  (hp : pc + 1 = pc1) (K : Go p.tables e below G (T.setTop (mkF m pc1 ls (.int (x ^^^ y) :: st)))) : Go p.tables e below G (T.setTop (mkF m pc ls (.int y :: .int x :: st))) := by
  subst hp; exact Go.via (fun _ k => Jvm.Free.XT.ixor q.1 q.2.1 rfl (hb q.2.2 hd) rfl k) K
theorem g_ishl (q : Q0 p T m c below code) {x y : Int32} (hd : decode code pc = .ok (.ishl, 1))  (hp : pc + 1 = pc1) (K : Go p.tables e below G (T.setTop (mkF m pc1 ls (.int (x <<< (y &&& 31)) :: st)))) : Go p.tables e below G (T.setTop (mkF m pc ls (.int y :: .int x :: st))) := by
  subst hp; exact Go.via (fun _ k => Jvm.Free.XT.ishl q.1 q.2.1 rfl (hb q.2.2 hd) rfl k) K
theorem g_ishr (q : Q0 p T m c below code) {x y : Int32} (hd : decode code pc = .ok (.ishr, 1))  (hp : pc + 1 = pc1) (K : Go p.tables e below G (T.setTop (mkF m pc1 ls (.int (x >>> (y &&& 31)) :: st)))) : Go p.tables e below G (T.setTop (mkF m pc ls (.int y :: .int x :: st))) := by
  subst hp; exact Go.via (fun _ k => Jvm.Free.XT.ishr q.1 q.2.1 rfl (hb q.2.2 hd) rfl k) K
theorem g_iushr (q : Q0 p T m c below code) {x y : Int32} (hd : decode code pc = .ok (.iushr, 1))  (hp : pc + 1 = pc1) (K : Go p.tables e below G (T.setTop (mkF m pc1 ls (.int (Jvm.Free.XT.ushr x y) :: st)))) : Go p.tables e below G (T.setTop (mkF m pc ls (.int y :: .int x :: st))) := by
  subst hp; exact Go.via (fun _ k => Jvm.Free.XT.iushr q.1 q.2.1 rfl (hb q.2.2 hd) rfl k) K
theorem g_i2b (q : Q0 p T m c below code) {x : Int32} (hd : decode code pc = .ok (.i2b, 1))  (hp : pc + 1 = pc1) (K : Go p.tables e below G (T.setTop (mkF m pc1 ls (.int (x.toInt8.toInt32) :: st)))) : Go p.tables e below G (T.setTop (mkF m pc ls (.int x :: st))) := by
  subst hp; exact Go.via (fun _ k => Jvm.Free.XT.i2b q.1 q.2.1 rfl (hb q.2.2 hd) rfl k) K
theorem g_i2c (q : Q0 p T m c below code) {x : Int32} (hd : decode code pc = .ok (.i2c, 1))  (hp : pc + 1 = pc1) (K : Go p.tables e below G (T.setTop (mkF m pc1 ls (.int (x.toUInt32.toUInt16.toUInt32.toInt32) :: st)))) : Go p.tables e below G (T.setTop (mkF m pc ls (.int x :: st))) := by
  subst hp; exact Go.via (fun _ k => Jvm.Free.XT.i2c q.1 q.2.1 rfl (hb q.2.2 hd) rfl k) K
theorem g_i2s (q : Q0 p T m c below code) {x : Int32} (hd : decode code pc = .ok (.i2s, 1))  (hp : pc + 1 = pc1) (K : Go p.tables e below G (T.setTop (mkF m pc1 ls (.int (x.toInt16.toInt32) :: st)))) : Go p.tables e below G (T.setTop (mkF m pc ls (.int x :: st))) := by
  subst hp; exact Go.via (fun _ k => Jvm.Free.XT.i2s q.1 q.2.1 rfl (hb q.2.2 hd) rfl k) K
theorem g_i2l (q : Q0 p T m c below code) {x : Int32} (hd : decode code pc = .ok (.i2l, 1))  (hp : pc + 1 = pc1) (K : Go p.tables e below G (T.setTop (mkF m pc1 ls (.long x.toInt64 :: st)))) : Go p.tables e below G (T.setTop (mkF m pc ls (.int x :: st))) := by
  subst hp; exact Go.via (fun _ k => Jvm.Free.XT.i2l q.1 q.2.1 rfl (hb q.2.2 hd) rfl k) K
theorem g_l2i (q : Q0 p T m c below code) {x : Int64} (hd : decode code pc = .ok (.l2i, 1))  (hp : pc + 1 = pc1) (K : Go p.tables e below G (T.setTop (mkF m pc1 ls (.int x.toInt32 :: st)))) : Go p.tables e below G (T.setTop (mkF m pc ls (.long x :: st))) := by
  subst hp; exact Go.via (fun _ k => Jvm.Free.XT.l2i q.1 q.2.1 rfl (hb q.2.2 hd) rfl k) K
theorem g_ladd (q : Q0 p T m c below code) {x y : Int64} (hd : decode code pc = .ok (.ladd, 1))  (hp : pc + 1 = pc1) (K : Go p.tables e below G (T.setTop (mkF m pc1 ls (.long (x + y) :: st)))) : Go p.tables e below G (T.setTop (mkF m pc ls (.long y :: .long x :: st))) := by
  subst hp; exact Go.via (fun _ k => Jvm.Free.XT.ladd q.1 q.2.1 rfl (hb q.2.2 hd) rfl k) K
theorem g_lsub (q : Q0 p T m c below code) {x y : Int64} (hd : decode code pc = .ok (.lsub, 1))  (hp : pc + 1 = pc1) (K : Go p.tables e below G (T.setTop (mkF m pc1 ls (.long (x - y) :: st)))) : Go p.tables e below G (T.setTop (mkF m pc ls (.long y :: .long x :: st))) := by
  subst hp; exact Go.via (fun _ k => Jvm.Free.XT.lsub q.1 q.2.1 rfl (hb q.2.2 hd) rfl k) K
theorem g_lmul (q : Q0 p T m c below code) {x y : Int64} (hd : decode code pc = .ok (.lmul, 1))  (hp : pc + 1 = pc1) (K : Go p.tables e below G (T.setTop (mkF m pc1 ls (.long (x * y) :: st)))) : Go p.tables e below G (T.setTop (mkF m pc ls (.long y :: .long x :: st))) := by
  subst hp; exact Go.via (fun _ k => Jvm.Free.XT.lmul q.1 q.2.1 rfl (hb q.2.2 hd) rfl k) K
theorem g_land (q : Q0 p T m c below code) {x y : Int64} (hd : decode code pc = .ok (.land, 1))  (hp : pc + 1 = pc1) (K : Go p.tables e below G (T.setTop (mkF m pc1 ls (.long (x &&& y) :: st)))) : Go p.tables e below G (T.setTop (mkF m pc ls (.long y :: .long x :: st))) := by
  subst hp; exact Go.via (fun _ k => Jvm.Free.XT.land q.1 q.2.1 rfl (hb q.2.2 hd) rfl k) K
theorem g_lor (q : Q0 p T m c below code) {x y : Int64} (hd : decode code pc = .ok (.lor, 1))  (hp : pc + 1 = pc1) (K : Go p.tables e below G (T.setTop (mkF m pc1 ls (.long (x ||| y) :: st)))) : Go p.tables e below G (T.setTop (mkF m pc ls (.long y :: .long x :: st))) := by
  subst hp; exact Go.via (fun _ k => Jvm.Free.XT.lor q.1 q.2.1 rfl (hb q.2.2 hd) rfl k) K
theorem g_lshl (q : Q0 p T m c below code) {x : Int64} {y : Int32} (hd : decode code pc = .ok (.lshl, 1))  (hp : pc + 1 = pc1) (K : Go p.tables e below G (T.setTop (mkF m pc1 ls (.long (x <<< (y.toInt64 &&& 63)) :: st)))) : Go p.tables e below G (T.setTop (mkF m pc ls (.int y :: .long x :: st))) := by
  subst hp; exact Go.via (fun _ k => Jvm.Free.XT.lshl q.1 q.2.1 rfl (hb q.2.2 hd) rfl k) K
theorem g_lshr (q : Q0 p T m c below code) {x : Int64} {y : Int32} (hd : decode code pc = .ok (.lshr, 1))  (hp : pc + 1 = pc1) (K : Go p.tables e below G (T.setTop (mkF m pc1 ls (.long (x >>> (y.toInt64 &&& 63)) :: st)))) : Go p.tables e below G (T.setTop (mkF m pc ls (.int y :: .long x :: st))) := by
  subst hp; exact Go.via (fun _ k => Jvm.Free.XT.lshr q.1 q.2.1 rfl (hb q.2.2 hd) rfl k) K
theorem g_lushr (q : Q0 p T m c below code) {x : Int64} {y : Int32} (hd : decode code pc = .ok (.lushr, 1))  (hp : pc + 1 = pc1) (K : Go p.tables e below G (T.setTop (mkF m pc1 ls (.long (Jvm.Free.XT.ushrL x y) :: st)))) : Go p.tables e below G (T.setTop (mkF m pc ls (.int y :: .long x :: st))) := by
  subst hp; exact Go.via (fun _ k => Jvm.Free.XT.lushr q.1 q.2.1 rfl (hb q.2.2 hd) rfl k) K
theorem g_lrem (q : Q0 p T m c below code) {x y : Int64} (hd : decode code pc = .ok (.lrem, 1)) (hy : y ≠ 0) (hp : pc + 1 = pc1) (K : Go p.tables e below G (T.setTop (mkF m pc1 ls (.long (x - (x / y) * y) :: st)))) : Go p.tables e below G (T.setTop (mkF m pc ls (.long y :: .long x :: st))) := by
  subst hp; exact Go.via (fun _ k => Jvm.Free.XT.lrem q.1 q.2.1 rfl (hb q.2.2 hd) rfl hy k) K
theorem g_lneg (q : Q0 p T m c below code) {x : Int64} (hd : decode code pc = .ok (.lneg, 1))  (hp : pc + 1 = pc1) (K : Go p.tables e below G (T.setTop (mkF m pc1 ls (.long (-x) :: st)))) : Go p.tables e below G (T.setTop (mkF m pc ls (.long x :: st))) := by
  subst hp; exact Go.via (fun _ k => Jvm.Free.XT.lneg q.1 q.2.1 rfl (hb q.2.2 hd) rfl k) K
theorem g_lcmp (q : Q0 p T m c below code) {x y : Int64} (hd : decode code pc = .ok (.lcmp, 1))  (hp : pc + 1 = pc1) (K : Go p.tables e below G (T.setTop (mkF m pc1 ls (.int (Jvm.Free.XT.cmpL x y) :: st)))) : Go p.tables e below G (T.setTop (mkF m pc ls (.long y :: .long x :: st))) := by
  subst hp; exact Go.via (fun _ k => Jvm.Free.XT.lcmp q.1 q.2.1 rfl (hb q.2.2 hd) rfl k) K
theorem g_lconst (q : Q0 p T m c below code) {i : Fin 2} {v : Int64} (hd : decode code pc = .ok (.lconst i, 1)) (hv : Int64.ofNat i.val = v) (hp : pc + 1 = pc1) (K : Go p.tables e below G (T.setTop (mkF m pc1 ls (.long v :: st)))) : Go p.tables e below G (T.setTop (mkF m pc ls st)) := by
  subst hp; exact Go.via (fun _ k => Jvm.Free.XT.lconst q.1 q.2.1 rfl (hb q.2.2 hd) (hv ▸ k)) K
theorem g_iinc (q : Q0 p T m c below code) {k : Nat} {i : Int} {v : Int32} (hd : decode code pc = .ok (.iinc k i, 3)) (hl : ls[k]? = some (.val (.int v))) (hl2 : storeLocals ls k (.int (v + Int32.ofInt i)) = some ls2) (hp : pc + 3 = pc1) (K : Go p.tables e below G (T.setTop (mkF m pc1 ls2 st))) : Go p.tables e below G (T.setTop (mkF m pc ls st)) := by
  subst hp; exact Go.via (fun _ k => Jvm.Free.XS.iinc q.1 q.2.1 rfl (hb q.2.2 hd) hl hl2 k) K
theorem g_dup (q : Q0 p T m c below code) {x : Value} (hd : decode code pc = .ok (.dup, 1)) (hc : x.category = 1) (hp : pc + 1 = pc1) (K : Go p.tables e below G (T.setTop (mkF m pc1 ls (x :: x :: st)))) : Go p.tables e below G (T.setTop (mkF m pc ls (x :: st))) := by
  subst hp; exact Go.via (fun _ k => Jvm.Free.XS.dup q.1 q.2.1 rfl (hb q.2.2 hd) rfl hc k) K
theorem g_pop (q : Q0 p T m c below code) {x : Value} (hd : decode code pc = .ok (.pop, 1)) (hc : x.category = 1) (hp : pc + 1 = pc1) (K : Go p.tables e below G (T.setTop (mkF m pc1 ls st))) : Go p.tables e below G (T.setTop (mkF m pc ls (x :: st))) := by
  subst hp; exact Go.via (fun _ k => Jvm.Free.XT.pop q.1 q.2.1 rfl (hb q.2.2 hd) rfl hc k) K
theorem g_dup2 (q : Q0 p T m c below code) {x y : Value} (hd : decode code pc = .ok (.dup2, 1)) (hc : x.category = 1) (hc2 : y.category = 1) (hp : pc + 1 = pc1) (K : Go p.tables e below G (T.setTop (mkF m pc1 ls (x :: y :: x :: y :: st)))) : Go p.tables e below G (T.setTop (mkF m pc ls (x :: y :: st))) := by
  subst hp; exact Go.via (fun _ k => Jvm.Free.XT.dup2 q.1 q.2.1 rfl (hb q.2.2 hd) rfl hc hc2 k) K
theorem g_goto (q : Q0 p T m c below code) {o : Int} (hd : decode code pc = .ok (.goto o, 3)) (ho : 0 ≤ (pc : Int) + o) (hp : ((pc : Int) + o).toNat = pc1) (K : Go p.tables e below G (T.setTop (mkF m pc1 ls st))) : Go p.tables e below G (T.setTop (mkF m pc ls st)) :=
  Go.via (fun _ k => Jvm.Free.XS.goto q.1 q.2.1 rfl rfl (hb q.2.2 hd) ho hp k) K
theorem g_ifY (q : Q0 p T m c below code) {cd : ClassFile.Cond} {x : Int32} {o : Int} (hd : decode code pc = .ok (.ifCond cd o, 3)) (ho : 0 ≤ (pc : Int) + o) (hp : ((pc : Int) + o).toNat = pc1) (h : cv cd x 0) (K : Go p.tables e below G (T.setTop (mkF m pc1 ls st))) : Go p.tables e below G (T.setTop (mkF m pc ls (.int x :: st))) :=
  Go.via (fun _ k => Jvm.Free.XS.ifYes q.1 q.2.1 rfl rfl (hb q.2.2 hd) rfl (by rw [if0]; exact cvY h) ho hp k) K
theorem g_ifN (q : Q0 p T m c below code) {cd : ClassFile.Cond} {x : Int32} {o : Int} (hd : decode code pc = .ok (.ifCond cd o, 3)) (hp : pc + 3 = pc2) (h : ¬ cv cd x 0) (K : Go p.tables e below G (T.setTop (mkF m pc2 ls st))) : Go p.tables e below G (T.setTop (mkF m pc ls (.int x :: st))) := by
  subst hp; exact Go.via (fun _ k => Jvm.Free.XS.ifNo q.1 q.2.1 rfl (hb q.2.2 hd) rfl (by rw [if0]; exact cvN h) k) K
theorem g_if (q : Q0 p T m c below code) {cd : ClassFile.Cond} {x : Int32} {o : Int} (hd : decode code pc = .ok (.ifCond cd o, 3)) (ho : 0 ≤ (pc : Int) + o) (hp : ((pc : Int) + o).toNat = pc1) (hp2 : pc + 3 = pc2) (K : cv cd x 0 → Go p.tables e below G (T.setTop (mkF m pc1 ls st))) (K2 : ¬ cv cd x 0 → Go p.tables e below G (T.setTop (mkF m pc2 ls st))) : Go p.tables e below G (T.setTop (mkF m pc ls (.int x :: st))) :=
  (cvD cd x 0).elim (fun h => g_ifY q hd ho hp h (K h)) (fun h => g_ifN q hd hp2 h (K2 h))
theorem g_cmpY (q : Q0 p T m c below code) {cd : ClassFile.Cond} {x y : Int32} {o : Int} (hd : decode code pc = .ok (.if_icmp cd o, 3)) (ho : 0 ≤ (pc : Int) + o) (hp : ((pc : Int) + o).toNat = pc1) (h : cv cd x y) (K : Go p.tables e below G (T.setTop (mkF m pc1 ls st))) : Go p.tables e below G (T.setTop (mkF m pc ls (.int y :: .int x :: st))) :=
  Go.via (fun _ k => Jvm.Free.XS.icmpYes q.1 q.2.1 rfl rfl (hb q.2.2 hd) rfl (cvY h) ho hp k) K
theorem g_cmpN (q : Q0 p T m c below code) {cd : ClassFile.Cond} {x y : Int32} {o : Int} (hd : decode code pc = .ok (.if_icmp cd o, 3)) (hp : pc + 3 = pc2) (h : ¬ cv cd x y) (K : Go p.tables e below G (T.setTop (mkF m pc2 ls st))) : Go p.tables e below G (T.setTop (mkF m pc ls (.int y :: .int x :: st))) := by
  subst hp; exact Go.via (fun _ k => Jvm.Free.XS.icmpNo q.1 q.2.1 rfl (hb q.2.2 hd) rfl (cvN h) k) K
theorem g_cmp (q : Q0 p T m c below code) {cd : ClassFile.Cond} {x y : Int32} {o : Int} (hd : decode code pc = .ok (.if_icmp cd o, 3)) (ho : 0 ≤ (pc : Int) + o) (hp : ((pc : Int) + o).toNat = pc1) (hp2 : pc + 3 = pc2) (K : cv cd x y → Go p.tables e below G (T.setTop (mkF m pc1 ls st))) (K2 : ¬ cv cd x y → Go p.tables e below G (T.setTop (mkF m pc2 ls st))) : Go p.tables e below G (T.setTop (mkF m pc ls (.int y :: .int x :: st))) :=
  (cvD cd x y).elim (fun h => g_cmpY q hd ho hp h (K h)) (fun h => g_cmpN q hd hp2 h (K2 h))
theorem g_nullY (q : Q0 p T m c below code) {o : Int} (hd : decode code pc = .ok (.ifnull o, 3)) (ho : 0 ≤ (pc : Int) + o) (hp : ((pc : Int) + o).toNat = pc1) (K : Go p.tables e below G (T.setTop (mkF m pc1 ls st))) : Go p.tables e below G (T.setTop (mkF m pc ls (.null :: st))) :=
  Go.via (fun _ k => Jvm.Free.XS.ifnullYes q.1 q.2.1 rfl rfl (hb q.2.2 hd) rfl ho hp k) K
theorem g_nullN (q : Q0 p T m c below code) {o : Int} {b : Addr} (hd : decode code pc = .ok (.ifnull o, 3)) (hp : pc + 3 = pc2) (K : Go p.tables e below G (T.setTop (mkF m pc2 ls st))) : Go p.tables e below G (T.setTop (mkF m pc ls (.ref b :: st))) := by
  subst hp; exact Go.via (fun _ k => Jvm.Free.XS.ifnullNo q.1 q.2.1 rfl (hb q.2.2 hd) rfl k) K
theorem g_nonY (q : Q0 p T m c below code) {b : Addr} {o : Int} (hd : decode code pc = .ok (.ifnonnull o, 3)) (ho : 0 ≤ (pc : Int) + o) (hp : ((pc : Int) + o).toNat = pc1) (K : Go p.tables e below G (T.setTop (mkF m pc1 ls st))) : Go p.tables e below G (T.setTop (mkF m pc ls (.ref b :: st))) :=
  Go.via (fun _ k => Jvm.Free.XT.ifnonnullYes q.1 q.2.1 rfl rfl (hb q.2.2 hd) rfl ho hp k) K
theorem g_nonN (q : Q0 p T m c below code) {o : Int} (hd : decode code pc = .ok (.ifnonnull o, 3)) (hp : pc + 3 = pc2) (K : Go p.tables e below G (T.setTop (mkF m pc2 ls st))) : Go p.tables e below G (T.setTop (mkF m pc ls (.null :: st))) := by
  subst hp; exact Go.via (fun _ k => Jvm.Free.XT.ifnonnullNo q.1 q.2.1 rfl (hb q.2.2 hd) rfl k) K
theorem g_acmpY (q : Q0 p T m c below code) {cd : ClassFile.ACond} {x y : Value} {o : Int} (hd : decode code pc = .ok (.if_acmp cd o, 3)) (ho : 0 ≤ (pc : Int) + o) (hp : ((pc : Int) + o).toNat = pc1) (hx : x.isRef = true) (hy : y.isRef = true) (h : Jvm.Free.XT.acmp cd x y = true) (K : Go p.tables e below G (T.setTop (mkF m pc1 ls st))) : Go p.tables e below G (T.setTop (mkF m pc ls (y :: x :: st))) :=
  Go.via (fun _ k => Jvm.Free.XT.acmpYes q.1 q.2.1 rfl rfl (hb q.2.2 hd) rfl hx hy h ho hp k) K
theorem g_acmpN (q : Q0 p T m c below code) {cd : ClassFile.ACond} {x y : Value} {o : Int} (hd : decode code pc = .ok (.if_acmp cd o, 3)) (hp : pc + 3 = pc2) (hx : x.isRef = true) (hy : y.isRef = true) (h : Jvm.Free.XT.acmp cd x y = false) (K : Go p.tables e below G (T.setTop (mkF m pc2 ls st))) : Go p.tables e below G (T.setTop (mkF m pc ls (y :: x :: st))) := by
  subst hp; exact Go.via (fun _ k => Jvm.Free.XT.acmpNo q.1 q.2.1 rfl (hb q.2.2 hd) rfl hx hy h k) K
end Plain
/-- every place lies in a cell of wl, or in one made since -/
def Frw (wl : List Addr) (n : Nat) (L : List Loc) : Prop := ∀ y ∈ L, y.base ∈ wl ∨ n ≤ y.base
theorem Frw.nil {wl : List Addr} {n : Nat} : Frw wl n [] := fun _ q => nomatch q
theorem Frw.app {wl : List Addr} {n : Nat} {L L' : List Loc} (A : Frw wl n L) (B : Frw wl n L') : Frw wl n (L ++ L') := fun y q => (List.mem_append.mp q).elim (A y) (B y)
theorem Frw.snoc {wl : List Addr} {n : Nat} {L : List Loc} {a : Addr} {sl : Nat} (A : Frw wl n L) (q : a ∈ wl ∨ n ≤ a) : Frw wl n (L ++ [⟨a, sl⟩]) := A.app fun y hy => by cases List.mem_singleton.mp hy; exact q
theorem Frw.up {wl wl' : List Addr} {n n' : Nat} {L : List Loc} (A : Frw wl n L) (hn : n' ≤ n) (q : ∀ x ∈ wl, x ∈ wl' ∨ n' ≤ x) : Frw wl' n' L := fun y hy => (A y hy).elim (q _) (fun z => Or.inr (Nat.le_trans hn z))
theorem Frw.of_fr {wl : List Addr} {n n' : Nat} {L : List Loc} (A : Fr n L) (hn : n' ≤ n) : Frw wl n' L := fun y hy => Or.inr (Nat.le_trans hn (A y hy))
/-- where a walk stands: s its true start, vm0 the tables of its last interning step, h the heap -/
def Pos (p : Program) (l : Launch) (e : Env) (R : Room) (s : State) (m : MethodId) (args : Array Value) (below : List Frame) (meth : Method) (c : Code) (code : ByteArray) (Z : State) (EL : List (String × Nat)) (wl : List Addr) (hS : Heap) (own : String) (vm0 : Vm) (T : State) (locs : List Loc) (cells slots : Nat) (h : Heap) : Prop :=
  Stand p l e R (s.setVm vm0) m args below meth c T locs cells slots ∧ T.heap = h ∧ (∃ k0, s.Since vm0 k0 ∧ k0 ≤ h.size) ∧ Z.Warmed39 vm0 ∧ vm0.findClass own = some m.cls ∧ Frw wl hS.size locs ∧ s.heap = hS ∧ CHr Z EL s.vm hS vm0 h ∧ p.tables.exec = Jvm.exec ∧ c.code = code
section Heapy
variable {p : Program} {l : Launch} {e : Env} {R : Room} {s : State} {m : MethodId} {args : Array Value} {below : List Frame} {meth : Method} {c : Code} {code : ByteArray} {Z : State} {EL : List (String × Nat)} {wl : List Addr} {hS : Heap} {own : String} {vm0 : Vm} {T : State} {locs : List Loc} {cells slots : Nat} {h : Heap} {a0 : Array Value} {G : Outcome → State → Prop} {pc pc1 pc2 : Nat} {ls ls2 : Array Slot} {st : List Value}
theorem Pos.q (P : Pos p l e R s m args below meth c code Z EL wl hS own vm0 T locs cells slots h) : Q0 p T m c below code := ⟨P.1.here, P.2.2.2.2.2.2.2.2⟩
theorem Pos.hz (P : Pos p l e R s m args below meth c code Z EL wl hS own vm0 T locs cells slots h) : Z.Warmed39 (s.setVm vm0).vm := P.2.2.2.1
theorem Pos.al (P : Pos p l e R s m args below meth c code Z EL wl hS own vm0 T locs cells slots h) : Z.vm.Alike vm0 := P.2.2.2.1.alike
theorem Pos.heap (P : Pos p l e R s m args below meth c code Z EL wl hS own vm0 T locs cells slots h) : T.heap = h := P.2.1
theorem Pos.fr (P : Pos p l e R s m args below meth c code Z EL wl hS own vm0 T locs cells slots h) : Frw wl hS.size locs := P.2.2.2.2.2.1
theorem Pos.sz (P : Pos p l e R s m args below meth c code Z EL wl hS own vm0 T locs cells slots h) : hS.size ≤ h.size := P.2.2.2.2.2.2.2.1.2.1
theorem Pos.chv (P : Pos p l e R s m args below meth c code Z EL wl hS own vm0 T locs cells slots h) : CHv Z EL vm0 h := P.2.2.2.2.2.2.2.1.1
theorem Pos.chr (P : Pos p l e R s m args below meth c code Z EL wl hS own vm0 T locs cells slots h) : CHr Z EL s.vm hS vm0 h := P.2.2.2.2.2.2.2.1
theorem Pos.mono (P : Pos p l e R s m args below meth c code Z EL wl hS own vm0 T locs cells slots h) {cells' slots' : Nat} (hc : cells ≤ cells') (hs : slots ≤ slots') : Pos p l e R s m args below meth c code Z EL wl hS own vm0 T locs cells' slots' h := ⟨P.1.mono hc hs, P.2⟩
theorem Pos.keep (P : Pos p l e R s m args below meth c code Z EL wl hS own vm0 T locs cells slots h) : Keep hS h wl := by
  obtain ⟨X, rfl, -, -, -, N, rfl, -⟩ := P
  have hsame := X.same
  have key : ∀ (x : Addr) (c0 : Cell), s.heap[x]? = some c0 → x ∉ wl → T.heap[x]? = some c0 := fun x c0 q r => by
    obtain ⟨c', h1, h2, -, h4⟩ := hsame.2.2.2.2.2 x c0 q
    have hb := (Array.getElem?_eq_some_iff.mp q).1
    have hsl : c'.slots = c0.slots := Array.ext_getElem? fun i => h4 i fun hm => (N _ hm).elim r (fun z => absurd hb (Nat.not_lt.mpr z))
    have hcc : c' = c0 := by rw [h2, hsl]
    rw [← hcc]; exact h1
  exact ⟨hsame.2.1, key, fun x c0 q => by
    obtain ⟨c', h1, h2, h3, -⟩ := hsame.2.2.2.2.2 x c0 q
    exact ⟨c', h1, by rw [h2], by rw [h2], h3⟩⟩
theorem Pos.ext0 (P : Pos p l e R s m args below meth c code Z EL [] hS own vm0 T locs cells slots h) : Ext hS h := ⟨P.keep.1, fun a c q => P.keep.2.1 a c q nin0⟩
theorem Pos.extZ (P : Pos p l e R s m args below meth c code Z EL wl hS own vm0 T locs cells slots h) (EZ : Ext Z.heap hS) (q : ∀ x ∈ wl, Z.heap.size ≤ x) : Ext Z.heap h := ⟨Nat.le_trans EZ.1 P.keep.1, fun a c r => P.keep.2.1 a c (EZ.2 a c r) fun z => absurd (Array.getElem?_eq_some_iff.mp r).1 (Nat.not_lt.mpr (q a z))⟩
/-- a step that leaves heap and tables of interned texts as they are -/
theorem Pos.same (P : Pos p l e R s m args below meth c code Z EL wl hS own vm0 T locs cells slots h) {T' : State} (X' : Stand p l e R (s.setVm vm0) m args below meth c T' locs cells slots) (e' : T'.heap = h) : Pos p l e R s m args below meth c code Z EL wl hS own vm0 T' locs cells slots h := by
  obtain ⟨X, eT, hsi, hZ, hown, N, n1, C, hx, hby⟩ := P; exact ⟨X', e', hsi, hZ, hown, N, n1, C, hx, hby⟩
theorem Pos.grown (P : Pos p l e R s m args below meth c code Z EL wl hS own vm0 T locs cells slots h) {T' : State} {h' : Heap} {cells' slots' : Nat} (X' : Stand p l e R (s.setVm vm0) m args below meth c T' locs cells' slots') (e' : T'.heap = h') (E : Ext h h') : Pos p l e R s m args below meth c code Z EL wl hS own vm0 T' locs cells' slots' h' := by
  obtain ⟨X, eT, hsi, hZ, hown, N, n1, C, hx, hby⟩ := P; obtain ⟨k0, q1, q2⟩ := hsi; exact ⟨X', e', ⟨k0, q1, Nat.le_trans q2 E.1⟩, hZ, hown, N, n1, C.trans (CHr.ext E C.1), hx, hby⟩
theorem Pos.wrote (P : Pos p l e R s m args below meth c code Z EL wl hS own vm0 T locs cells slots h) {T' : State} {h' : Heap} {a : Addr} {sl : Nat} {v : Value} (X' : Stand p l e R (s.setVm vm0) m args below meth c T' (locs ++ [⟨a, sl⟩]) cells slots) (e' : T'.heap = h') (Wq : Wr h h' a sl v) (ga : a ∈ wl ∨ hS.size ≤ a) (S : Safe Z EL vm0 h a) : Pos p l e R s m args below meth c code Z EL wl hS own vm0 T' (locs ++ [⟨a, sl⟩]) cells slots h' := by
  obtain ⟨X, eT, hsi, hZ, hown, N, n1, C, hx, hby⟩ := P; obtain ⟨k0, q1, q2⟩ := hsi; have hs := Wq.size; exact ⟨X', e', ⟨k0, q1, by omega⟩, hZ, hown, N.snoc ga, n1, C.trans (CHr.wr Wq S C.1), hx, hby⟩
theorem Pos.came (P : Pos p l e R s m args below meth c code Z EL wl hS own vm0 T locs cells slots h) {T' : State} {L : List Loc} {cells' slots' : Nat} (X' : Stand p l e R (s.setVm vm0) m args below meth c T' (locs ++ L) cells' slots') (F : Frw wl hS.size L) (C' : CHr Z EL vm0 h vm0 T'.heap) : Pos p l e R s m args below meth c code Z EL wl hS own vm0 T' (locs ++ L) cells' slots' T'.heap := by
  obtain ⟨X, eT, hsi, hZ, hown, N, n1, C, hx, hby⟩ := P; obtain ⟨k0, q1, q2⟩ := hsi; have hs := C'.2.1; exact ⟨X', rfl, ⟨k0, q1, Nat.le_trans q2 hs⟩, hZ, hown, N.app F, n1, C.trans C', hx, hby⟩
theorem Pos.cameW (P : Pos p l e R s m args below meth c code Z EL wl hS own vm0 T locs cells slots h) {T' : State} {L : List Loc} {cells' slots' : Nat} (X' : Stand p l e R ((s.setVm vm0).setVm T'.vm) m args below meth c T' (locs ++ L) cells' slots') (h2 : (s.setVm vm0).Since T'.vm T'.heap.size) (g : h.size ≤ T'.heap.size) (F : Frw wl hS.size L) (C' : CHr Z EL vm0 h T'.vm T'.heap) : Pos p l e R s m args below meth c code Z EL wl hS own T'.vm T' (locs ++ L) cells' slots' T'.heap := by
  obtain ⟨X, eT, hsi, hZ, hown, N, n1, C, hx, hby⟩ := P; obtain ⟨k0, q1, q2⟩ := hsi
  obtain ⟨y1, y2, y3, y4⟩ := rebS q1 q2 X' h2 g hZ hown
  exact ⟨y1, rfl, ⟨_, y2, Nat.le_refl _⟩, y3, y4, N.app F, n1, C.trans C', hx, hby⟩
theorem Pos.getF (P : Pos p l e R s m args below meth c code Z EL wl hS own vm0 T locs cells slots h) {R0 O n d host : String} {index : Nat} {a : Addr} {v : Value} (w : (Cond.fieldLink own index R0 n d).before a0 Z = true ∨ (Cond.fieldLinkNest own index R0 n d host).before a0 Z = true) (via : Via Z R0 O n d) (F : Fld Z h a O n d v) (hd : decode code pc = .ok (.getfield index, 3)) (hp : pc + 3 = pc1) (K : ∀ (T' : State), Pos p l e R s m args below meth c code Z EL wl hS own vm0 T' locs cells slots h → Go p.tables e below G (T'.setTop (mkF m pc1 ls (v :: st)))) : Go p.tables e below G (T.setTop (mkF m pc ls (.ref a :: st))) := by
  subst hp
  obtain ⟨T', X', e', stp⟩ := RoadKit.getF P.1 P.q.2.1 P.hz P.2.2.2.2.1 w via P.heap F (g := mkF m pc ls (.ref a :: st)) rfl rfl (hb P.q.2.2 hd)
  exact Go.via stp (K T' (P.same X' e'))
theorem Pos.getS (P : Pos p l e R s m args below meth c code Z EL wl hS own vm0 T locs cells slots h) {R0 O n d : String} {index : Nat} {v : Value} (w : (Cond.fieldLink own index R0 n d).before a0 Z = true) (via : Via Z R0 O n d) (F : Sta Z h O n d v) (hd : decode code pc = .ok (.getstatic index, 3)) (hp : pc + 3 = pc1) (K : ∀ (T' : State), Pos p l e R s m args below meth c code Z EL wl hS own vm0 T' locs cells slots h → Go p.tables e below G (T'.setTop (mkF m pc1 ls (v :: st)))) : Go p.tables e below G (T.setTop (mkF m pc ls st)) := by
  subst hp
  obtain ⟨T', X', e', stp⟩ := RoadKit.getS (host := "") P.1 P.q.2.1 P.hz P.2.2.2.2.1 w via P.heap F (g := mkF m pc ls st) rfl (hb P.q.2.2 hd)
  exact Go.via stp (K T' (P.same X' e'))
theorem Pos.putF (P : Pos p l e R s m args below meth c code Z EL wl hS own vm0 T locs cells slots h) {R0 O n d host C : String} {index kk : Nat} {ty : FieldType} {a : Addr} {v old : Value} (w : (Cond.fieldLink own index R0 n d).before a0 Z = true ∨ (Cond.fieldLinkNest own index R0 n d host).before a0 Z = true) (via : Via Z R0 O n d) (F : Fld Z h a O n d old) (E : Exa Z h a C) (L : (Cond.lays C O n d).before a0 Z = true ∨ ((Cond.laysFinal C O n d).before a0 Z = true ∧ own = O ∧ meth.name = "<init>")) (wi : (Cond.instantiable C kk).before a0 Z = true) (hty : parseFieldDescriptor d = some ty) (hn : narrow ty v = v) (hf : fits ty v = true) (ga : a ∈ wl ∨ hS.size ≤ a) (S : Safe Z EL vm0 h a) (hd : decode code pc = .ok (.putfield index, 3)) (hp : pc + 3 = pc1) (K : ∀ (T' : State) (h' : Heap), Pos p l e R s m args below meth c code Z EL wl hS own vm0 T' (locs ++ [⟨a, RoadKit.slotOf Z O n d⟩]) cells slots h' → Wr h h' a (RoadKit.slotOf Z O n d) v → Go p.tables e below G (T'.setTop (mkF m pc1 ls st))) : Go p.tables e below G (T.setTop (mkF m pc ls (v :: .ref a :: st))) := by
  subst hp
  obtain ⟨T', h', X', e', W', stp⟩ := RoadKit.putF P.1 P.q.2.1 P.hz P.2.2.2.2.1 w via P.heap F E L wi hty hn hf (g := mkF m pc ls (v :: .ref a :: st)) rfl rfl (hb P.q.2.2 hd)
  exact Go.via stp (K T' h' (P.wrote X' e' W' ga S) W')
theorem Pos.newO (P : Pos p l e R s m args below meth c code Z EL wl hS own vm0 T locs cells slots h) {C : String} {index n : Nat} (w : (Cond.classLink own index C).before a0 Z = true) (wi : (Cond.instantiable C n).before a0 Z = true) (wz : (Cond.initialized C).before a0 Z = true) (hc : cells + 1 ≤ R.cells) (hl : slots + n ≤ R.slots) (hd : decode code pc = .ok (.new index, 3)) (hp : pc + 3 = pc1) (K : ∀ (T' : State) (h' : Heap) (x : Addr), x = h.size → Pos p l e R s m args below meth c code Z EL wl hS own vm0 T' locs (cells + 1) (slots + n) h' → Ext h h' → Exa Z h' x C → (∀ {O nm d : String} {ty : FieldType}, Laid Z a0 C O nm d → parseFieldDescriptor d = some ty → Fld Z h' x O nm d (defaultValue ty)) → (∃ cell : Cell, h'[x]? = some cell ∧ cell.vm = .none ∧ cell.monitor = {}) → Go p.tables e below G (T'.setTop (mkF m pc1 ls (.ref x :: st)))) : Go p.tables e below G (T.setTop (mkF m pc ls st)) := by
  subst hp
  obtain ⟨T', h', X', e', E', A', D', U', stp⟩ := RoadKit.newO P.1 P.q.2.1 P.hz P.2.2.2.2.1 w wi wz P.heap (g := mkF m pc ls st) rfl (hb P.q.2.2 hd) hc hl
  exact Go.via stp (K T' h' _ rfl (P.grown X' e' E') E' A' D' U')
theorem Pos.newP (P : Pos p l e R s m args below meth c code Z EL wl hS own vm0 T locs cells slots h) {aty : ArrayType} {n : Int32} {cap : Nat} (w : (Cond.arrayClass (newarray.typeOf aty)).before a0 Z = true) (hn : ¬ n < 0) (hcap : n.toNatClampNeg ≤ cap) (hb8 : cap * 8 ≤ 536870912) (hc : cells + 1 ≤ R.cells) (hl : slots + cap ≤ R.slots) (hd : decode code pc = .ok (.newarray aty, 2)) (hp : pc + 2 = pc1) (K : ∀ (T' : State) (h' : Heap) (x : Addr) (k : ClassId), x = h.size → Pos p l e R s m args below meth c code Z EL wl hS own vm0 T' locs (cells + 1) (slots + cap) h' → Ext h h' → Arv Z h' x k (newarray.typeOf aty) n (List.replicate n.toNatClampNeg (defaultValue (newarray.typeOf aty))) (defaultValue (newarray.typeOf aty)) → Go p.tables e below G (T'.setTop (mkF m pc1 ls (.ref x :: st)))) : Go p.tables e below G (T.setTop (mkF m pc ls (.int n :: st))) := by
  subst hp
  obtain ⟨T', h', k, X', e', E', A', stp⟩ := RoadKit.newP P.1 P.q.2.1 P.hz w P.heap (g := mkF m pc ls (.int n :: st)) rfl (hb P.q.2.2 hd) rfl hn hcap hb8 hc hl
  exact Go.via stp (K T' h' _ k rfl (P.grown X' e' E') E' ((Arv.new A' hn).pad (pad_rep [] _ _)))
theorem Pos.stC (P : Pos p l e R s m args below meth c code Z EL wl hS own vm0 T locs cells slots h) {a : Addr} {k : ClassId} {z j : Int32} {x : Int32} {vs : List Value} {d : Value} {i : Nat} (V : Arv Z h a k .char z vs d) (hj : ¬ j < 0) (hi : j.toNatClampNeg = i) (hl : i < vs.length) (hz : z.toNatClampNeg = vs.length) (ga : a ∈ wl ∨ hS.size ≤ a) (S : Safe Z EL vm0 h a) (hd : decode code pc = .ok (.castore, 1)) (hp : pc + 1 = pc1) (K : ∀ (T' : State) (h' : Heap), Pos p l e R s m args below meth c code Z EL wl hS own vm0 T' (locs ++ [⟨a, j.toNatClampNeg⟩]) cells slots h' → Wr h h' a j.toNatClampNeg (.int (nar .char x)) → Arv Z h' a k .char z (vs.set i (.int (nar .char x))) d → Go p.tables e below G (T'.setTop (mkF m pc1 ls st))) : Go p.tables e below G (T.setTop (mkF m pc ls (.int x :: .int j :: .ref a :: st))) := by
  subst hp
  obtain ⟨cl, A, q1, S1, q3, H1, G1⟩ := V
  obtain ⟨T', h', X', e', W', stp⟩ := RoadKit.stC P.1 P.q.2.1 P.hz P.heap A (j := j) (x := x) (fun y => y.elim hj (fun y => by rw [S1] at y; omega)) (g := mkF m pc ls (.int x :: .int j :: .ref a :: st)) rfl rfl (hb P.q.2.2 hd)
  exact Go.via stp (K T' h' (P.wrote X' e' W' ga S) W' (Arv.set A q1 S1 q3 H1 G1 (fits_nar_char x) W' i hi hl))
theorem Pos.stB (P : Pos p l e R s m args below meth c code Z EL wl hS own vm0 T locs cells slots h) {a : Addr} {k : ClassId} {z j : Int32} {x : Int32} {vs : List Value} {d : Value} {i : Nat} (V : Arv Z h a k .byte z vs d) (hj : ¬ j < 0) (hi : j.toNatClampNeg = i) (hl : i < vs.length) (hz : z.toNatClampNeg = vs.length) (ga : a ∈ wl ∨ hS.size ≤ a) (S : Safe Z EL vm0 h a) (hd : decode code pc = .ok (.bastore, 1)) (hp : pc + 1 = pc1) (K : ∀ (T' : State) (h' : Heap), Pos p l e R s m args below meth c code Z EL wl hS own vm0 T' (locs ++ [⟨a, j.toNatClampNeg⟩]) cells slots h' → Wr h h' a j.toNatClampNeg (.int (nar .byte x)) → Arv Z h' a k .byte z (vs.set i (.int (nar .byte x))) d → Go p.tables e below G (T'.setTop (mkF m pc1 ls st))) : Go p.tables e below G (T.setTop (mkF m pc ls (.int x :: .int j :: .ref a :: st))) := by
  subst hp
  obtain ⟨cl, A, q1, S1, q3, H1, G1⟩ := V
  obtain ⟨T', h', X', e', W', stp⟩ := RoadKit.stB P.1 P.q.2.1 P.hz P.heap A (j := j) (x := x) (fun y => y.elim hj (fun y => by rw [S1] at y; omega)) (g := mkF m pc ls (.int x :: .int j :: .ref a :: st)) rfl rfl (hb P.q.2.2 hd)
  exact Go.via stp (K T' h' (P.wrote X' e' W' ga S) W' (Arv.set A q1 S1 q3 H1 G1 (fits_nar_byte x) W' i hi hl))
theorem Pos.stZ (P : Pos p l e R s m args below meth c code Z EL wl hS own vm0 T locs cells slots h) {a : Addr} {k : ClassId} {z j : Int32} {x : Int32} {vs : List Value} {d : Value} {i : Nat} (V : Arv Z h a k .boolean z vs d) (hj : ¬ j < 0) (hi : j.toNatClampNeg = i) (hl : i < vs.length) (hz : z.toNatClampNeg = vs.length) (ga : a ∈ wl ∨ hS.size ≤ a) (S : Safe Z EL vm0 h a) (hd : decode code pc = .ok (.bastore, 1)) (hp : pc + 1 = pc1) (K : ∀ (T' : State) (h' : Heap), Pos p l e R s m args below meth c code Z EL wl hS own vm0 T' (locs ++ [⟨a, j.toNatClampNeg⟩]) cells slots h' → Wr h h' a j.toNatClampNeg (.int (nar .boolean x)) → Arv Z h' a k .boolean z (vs.set i (.int (nar .boolean x))) d → Go p.tables e below G (T'.setTop (mkF m pc1 ls st))) : Go p.tables e below G (T.setTop (mkF m pc ls (.int x :: .int j :: .ref a :: st))) := by
  subst hp
  obtain ⟨cl, A, q1, S1, q3, H1, G1⟩ := V
  obtain ⟨T', h', X', e', W', stp⟩ := RoadKit.stZ P.1 P.q.2.1 P.hz P.heap A (j := j) (x := x) (fun y => y.elim hj (fun y => by rw [S1] at y; omega)) (g := mkF m pc ls (.int x :: .int j :: .ref a :: st)) rfl rfl (hb P.q.2.2 hd)
  exact Go.via stp (K T' h' (P.wrote X' e' W' ga S) W' (Arv.set A q1 S1 q3 H1 G1 (fits_nar_bool x) W' i hi hl))
theorem Pos.stI (P : Pos p l e R s m args below meth c code Z EL wl hS own vm0 T locs cells slots h) {a : Addr} {k : ClassId} {z j : Int32} {x : Int32} {vs : List Value} {d : Value} {i : Nat} (V : Arv Z h a k .int z vs d) (hj : ¬ j < 0) (hi : j.toNatClampNeg = i) (hl : i < vs.length) (hz : z.toNatClampNeg = vs.length) (ga : a ∈ wl ∨ hS.size ≤ a) (S : Safe Z EL vm0 h a) (hd : decode code pc = .ok (.iastore, 1)) (hp : pc + 1 = pc1) (K : ∀ (T' : State) (h' : Heap), Pos p l e R s m args below meth c code Z EL wl hS own vm0 T' (locs ++ [⟨a, j.toNatClampNeg⟩]) cells slots h' → Wr h h' a j.toNatClampNeg (.int x) → Arv Z h' a k .int z (vs.set i (.int x)) d → Go p.tables e below G (T'.setTop (mkF m pc1 ls st))) : Go p.tables e below G (T.setTop (mkF m pc ls (.int x :: .int j :: .ref a :: st))) := by
  subst hp
  obtain ⟨cl, A, q1, S1, q3, H1, G1⟩ := V
  obtain ⟨T', h', X', e', W', stp⟩ := RoadKit.stI P.1 P.q.2.1 P.hz P.heap A (j := j) (x := x) (fun y => y.elim hj (fun y => by rw [S1] at y; omega)) (g := mkF m pc ls (.int x :: .int j :: .ref a :: st)) rfl rfl (hb P.q.2.2 hd)
  exact Go.via stp (K T' h' (P.wrote X' e' W' ga S) W' (Arv.set A q1 S1 q3 H1 G1 (rfl) W' i hi hl))
theorem Pos.stJ (P : Pos p l e R s m args below meth c code Z EL wl hS own vm0 T locs cells slots h) {a : Addr} {k : ClassId} {z j : Int32} {x : Int64} {vs : List Value} {d : Value} {i : Nat} (V : Arv Z h a k .long z vs d) (hj : ¬ j < 0) (hi : j.toNatClampNeg = i) (hl : i < vs.length) (hz : z.toNatClampNeg = vs.length) (ga : a ∈ wl ∨ hS.size ≤ a) (S : Safe Z EL vm0 h a) (hd : decode code pc = .ok (.lastore, 1)) (hp : pc + 1 = pc1) (K : ∀ (T' : State) (h' : Heap), Pos p l e R s m args below meth c code Z EL wl hS own vm0 T' (locs ++ [⟨a, j.toNatClampNeg⟩]) cells slots h' → Wr h h' a j.toNatClampNeg (.long x) → Arv Z h' a k .long z (vs.set i (.long x)) d → Go p.tables e below G (T'.setTop (mkF m pc1 ls st))) : Go p.tables e below G (T.setTop (mkF m pc ls (.long x :: .int j :: .ref a :: st))) := by
  subst hp
  obtain ⟨cl, A, q1, S1, q3, H1, G1⟩ := V
  obtain ⟨T', h', X', e', W', stp⟩ := RoadKit.stJ P.1 P.q.2.1 P.hz P.heap A (j := j) (x := x) (fun y => y.elim hj (fun y => by rw [S1] at y; omega)) (g := mkF m pc ls (.long x :: .int j :: .ref a :: st)) rfl rfl (hb P.q.2.2 hd)
  exact Go.via stp (K T' h' (P.wrote X' e' W' ga S) W' (Arv.set A q1 S1 q3 H1 G1 (rfl) W' i hi hl))
theorem Pos.stD (P : Pos p l e R s m args below meth c code Z EL wl hS own vm0 T locs cells slots h) {a : Addr} {k : ClassId} {z j : Int32} {x : UInt64} {vs : List Value} {d : Value} {i : Nat} (V : Arv Z h a k .double z vs d) (hj : ¬ j < 0) (hi : j.toNatClampNeg = i) (hl : i < vs.length) (hz : z.toNatClampNeg = vs.length) (ga : a ∈ wl ∨ hS.size ≤ a) (S : Safe Z EL vm0 h a) (hd : decode code pc = .ok (.dastore, 1)) (hp : pc + 1 = pc1) (K : ∀ (T' : State) (h' : Heap), Pos p l e R s m args below meth c code Z EL wl hS own vm0 T' (locs ++ [⟨a, j.toNatClampNeg⟩]) cells slots h' → Wr h h' a j.toNatClampNeg (.double x) → Arv Z h' a k .double z (vs.set i (.double x)) d → Go p.tables e below G (T'.setTop (mkF m pc1 ls st))) : Go p.tables e below G (T.setTop (mkF m pc ls (.double x :: .int j :: .ref a :: st))) := by
  subst hp
  obtain ⟨cl, A, q1, S1, q3, H1, G1⟩ := V
  obtain ⟨T', h', X', e', W', stp⟩ := RoadKit.stD P.1 P.q.2.1 P.hz P.heap A (j := j) (x := x) (fun y => y.elim hj (fun y => by rw [S1] at y; omega)) (g := mkF m pc ls (.double x :: .int j :: .ref a :: st)) rfl rfl (hb P.q.2.2 hd)
  exact Go.via stp (K T' h' (P.wrote X' e' W' ga S) W' (Arv.set A q1 S1 q3 H1 G1 (rfl) W' i hi hl))
theorem Pos.stF (P : Pos p l e R s m args below meth c code Z EL wl hS own vm0 T locs cells slots h) {a : Addr} {k : ClassId} {z j : Int32} {x : UInt32} {vs : List Value} {d : Value} {i : Nat} (V : Arv Z h a k .float z vs d) (hj : ¬ j < 0) (hi : j.toNatClampNeg = i) (hl : i < vs.length) (hz : z.toNatClampNeg = vs.length) (ga : a ∈ wl ∨ hS.size ≤ a) (S : Safe Z EL vm0 h a) (hd : decode code pc = .ok (.fastore, 1)) (hp : pc + 1 = pc1) (K : ∀ (T' : State) (h' : Heap), Pos p l e R s m args below meth c code Z EL wl hS own vm0 T' (locs ++ [⟨a, j.toNatClampNeg⟩]) cells slots h' → Wr h h' a j.toNatClampNeg (.float x) → Arv Z h' a k .float z (vs.set i (.float x)) d → Go p.tables e below G (T'.setTop (mkF m pc1 ls st))) : Go p.tables e below G (T.setTop (mkF m pc ls (.float x :: .int j :: .ref a :: st))) := by
  subst hp
  obtain ⟨cl, A, q1, S1, q3, H1, G1⟩ := V
  obtain ⟨T', h', X', e', W', stp⟩ := RoadKit.stF P.1 P.q.2.1 P.hz P.heap A (j := j) (x := x) (fun y => y.elim hj (fun y => by rw [S1] at y; omega)) (g := mkF m pc ls (.float x :: .int j :: .ref a :: st)) rfl rfl (hb P.q.2.2 hd)
  exact Go.via stp (K T' h' (P.wrote X' e' W' ga S) W' (Arv.set A q1 S1 q3 H1 G1 (rfl) W' i hi hl))
theorem Pos.ldC (P : Pos p l e R s m args below meth c code Z EL wl hS own vm0 T locs cells slots h) {a : Addr} {k : ClassId} {z j : Int32} {vs : List Value} {d v : Value} (V : Arv Z h a k .char z vs d) (hj : ¬ j < 0) (hz : j.toNatClampNeg < z.toNatClampNeg) (hv : vs.getD j.toNatClampNeg d = v) (hd : decode code pc = .ok (.caload, 1)) (hp : pc + 1 = pc1) (K : Go p.tables e below G (T.setTop (mkF m pc1 ls (v :: st)))) : Go p.tables e below G (T.setTop (mkF m pc ls (.int j :: .ref a :: st))) := by
  subst hp
  obtain ⟨cl, A, q1, S1, q3, H1, G1⟩ := V
  exact Go.via (fun t k => P.1.caload P.q.2.1 (j := j) (v := v) (by rw [P.heap]; exact A.1) (State.isArrayOf_alike P.hz.alike A.2.1) A.2.2 (fun y => y.elim hj (fun y => by rw [S1] at y; omega)) (by rw [← hv]; exact H1 _ (by rw [S1]; exact hz)) (g := mkF m pc ls (.int j :: .ref a :: st)) rfl rfl (hb P.q.2.2 hd) t k) K
theorem Pos.ldB (P : Pos p l e R s m args below meth c code Z EL wl hS own vm0 T locs cells slots h) {a : Addr} {k : ClassId} {z j : Int32} {vs : List Value} {d v : Value} (V : Arv Z h a k .byte z vs d) (hj : ¬ j < 0) (hz : j.toNatClampNeg < z.toNatClampNeg) (hv : vs.getD j.toNatClampNeg d = v) (hd : decode code pc = .ok (.baload, 1)) (hp : pc + 1 = pc1) (K : Go p.tables e below G (T.setTop (mkF m pc1 ls (v :: st)))) : Go p.tables e below G (T.setTop (mkF m pc ls (.int j :: .ref a :: st))) := by
  subst hp
  obtain ⟨cl, A, q1, S1, q3, H1, G1⟩ := V
  exact Go.via (fun t k => P.1.baloadBytes P.q.2.1 (j := j) (v := v) (by rw [P.heap]; exact A.1) (State.isArrayOf_alike P.hz.alike A.2.1) A.2.2 (fun y => y.elim hj (fun y => by rw [S1] at y; omega)) (by rw [← hv]; exact H1 _ (by rw [S1]; exact hz)) (g := mkF m pc ls (.int j :: .ref a :: st)) rfl rfl (hb P.q.2.2 hd) t k) K
theorem Pos.ldZ (P : Pos p l e R s m args below meth c code Z EL wl hS own vm0 T locs cells slots h) {a : Addr} {k : ClassId} {z j : Int32} {vs : List Value} {d v : Value} (V : Arv Z h a k .boolean z vs d) (hj : ¬ j < 0) (hz : j.toNatClampNeg < z.toNatClampNeg) (hv : vs.getD j.toNatClampNeg d = v) (hd : decode code pc = .ok (.baload, 1)) (hp : pc + 1 = pc1) (K : Go p.tables e below G (T.setTop (mkF m pc1 ls (v :: st)))) : Go p.tables e below G (T.setTop (mkF m pc ls (.int j :: .ref a :: st))) := by
  subst hp
  obtain ⟨cl, A, q1, S1, q3, H1, G1⟩ := V
  exact Go.via (fun t k => P.1.baloadBooleans P.q.2.1 (j := j) (v := v) (by rw [P.heap]; exact A.1) (State.isArrayOf_alike P.hz.alike A.2.1) A.2.2 (fun y => y.elim hj (fun y => by rw [S1] at y; omega)) (by rw [← hv]; exact H1 _ (by rw [S1]; exact hz)) (g := mkF m pc ls (.int j :: .ref a :: st)) rfl rfl (hb P.q.2.2 hd) t k) K
theorem Pos.ldI (P : Pos p l e R s m args below meth c code Z EL wl hS own vm0 T locs cells slots h) {a : Addr} {k : ClassId} {z j : Int32} {vs : List Value} {d v : Value} (V : Arv Z h a k .int z vs d) (hj : ¬ j < 0) (hz : j.toNatClampNeg < z.toNatClampNeg) (hv : vs.getD j.toNatClampNeg d = v) (hd : decode code pc = .ok (.iaload, 1)) (hp : pc + 1 = pc1) (K : Go p.tables e below G (T.setTop (mkF m pc1 ls (v :: st)))) : Go p.tables e below G (T.setTop (mkF m pc ls (.int j :: .ref a :: st))) := by
  subst hp
  obtain ⟨cl, A, q1, S1, q3, H1, G1⟩ := V
  exact Go.via (fun t k => P.1.iaload P.q.2.1 (j := j) (v := v) (by rw [P.heap]; exact A.1) (State.isArrayOf_alike P.hz.alike A.2.1) A.2.2 (fun y => y.elim hj (fun y => by rw [S1] at y; omega)) (by rw [← hv]; exact H1 _ (by rw [S1]; exact hz)) (g := mkF m pc ls (.int j :: .ref a :: st)) rfl rfl (hb P.q.2.2 hd) t k) K
theorem Pos.ldJ (P : Pos p l e R s m args below meth c code Z EL wl hS own vm0 T locs cells slots h) {a : Addr} {k : ClassId} {z j : Int32} {vs : List Value} {d v : Value} (V : Arv Z h a k .long z vs d) (hj : ¬ j < 0) (hz : j.toNatClampNeg < z.toNatClampNeg) (hv : vs.getD j.toNatClampNeg d = v) (hd : decode code pc = .ok (.laload, 1)) (hp : pc + 1 = pc1) (K : Go p.tables e below G (T.setTop (mkF m pc1 ls (v :: st)))) : Go p.tables e below G (T.setTop (mkF m pc ls (.int j :: .ref a :: st))) := by
  subst hp
  obtain ⟨cl, A, q1, S1, q3, H1, G1⟩ := V
  exact Go.via (fun t k => P.1.laload P.q.2.1 (j := j) (v := v) (by rw [P.heap]; exact A.1) (State.isArrayOf_alike P.hz.alike A.2.1) A.2.2 (fun y => y.elim hj (fun y => by rw [S1] at y; omega)) (by rw [← hv]; exact H1 _ (by rw [S1]; exact hz)) (g := mkF m pc ls (.int j :: .ref a :: st)) rfl rfl (hb P.q.2.2 hd) t k) K
theorem Pos.ldD (P : Pos p l e R s m args below meth c code Z EL wl hS own vm0 T locs cells slots h) {a : Addr} {k : ClassId} {z j : Int32} {vs : List Value} {d v : Value} (V : Arv Z h a k .double z vs d) (hj : ¬ j < 0) (hz : j.toNatClampNeg < z.toNatClampNeg) (hv : vs.getD j.toNatClampNeg d = v) (hd : decode code pc = .ok (.daload, 1)) (hp : pc + 1 = pc1) (K : Go p.tables e below G (T.setTop (mkF m pc1 ls (v :: st)))) : Go p.tables e below G (T.setTop (mkF m pc ls (.int j :: .ref a :: st))) := by
  subst hp
  obtain ⟨cl, A, q1, S1, q3, H1, G1⟩ := V
  exact Go.via (fun t k => P.1.daload P.q.2.1 (j := j) (v := v) (by rw [P.heap]; exact A.1) (State.isArrayOf_alike P.hz.alike A.2.1) A.2.2 (fun y => y.elim hj (fun y => by rw [S1] at y; omega)) (by rw [← hv]; exact H1 _ (by rw [S1]; exact hz)) (g := mkF m pc ls (.int j :: .ref a :: st)) rfl rfl (hb P.q.2.2 hd) t k) K
theorem Pos.ldF (P : Pos p l e R s m args below meth c code Z EL wl hS own vm0 T locs cells slots h) {a : Addr} {k : ClassId} {z j : Int32} {vs : List Value} {d v : Value} (V : Arv Z h a k .float z vs d) (hj : ¬ j < 0) (hz : j.toNatClampNeg < z.toNatClampNeg) (hv : vs.getD j.toNatClampNeg d = v) (hd : decode code pc = .ok (.faload, 1)) (hp : pc + 1 = pc1) (K : Go p.tables e below G (T.setTop (mkF m pc1 ls (v :: st)))) : Go p.tables e below G (T.setTop (mkF m pc ls (.int j :: .ref a :: st))) := by
  subst hp
  obtain ⟨cl, A, q1, S1, q3, H1, G1⟩ := V
  exact Go.via (fun t k => P.1.faload P.q.2.1 (j := j) (v := v) (by rw [P.heap]; exact A.1) (State.isArrayOf_alike P.hz.alike A.2.1) A.2.2 (fun y => y.elim hj (fun y => by rw [S1] at y; omega)) (by rw [← hv]; exact H1 _ (by rw [S1]; exact hz)) (g := mkF m pc ls (.int j :: .ref a :: st)) rfl rfl (hb P.q.2.2 hd) t k) K
theorem Pos.len (P : Pos p l e R s m args below meth c code Z EL wl hS own vm0 T locs cells slots h) {a : Addr} {k : ClassId} {ty : FieldType} {z : Int32} {vs : List Value} {d : Value} (V : Arv Z h a k ty z vs d) (hd : decode code pc = .ok (.arraylength, 1)) (hp : pc + 1 = pc1) (K : Go p.tables e below G (T.setTop (mkF m pc1 ls (.int z :: st)))) : Go p.tables e below G (T.setTop (mkF m pc ls (.ref a :: st))) := by
  subst hp
  obtain ⟨cl, A, q1, S1, q3, H1, G1⟩ := V
  rw [← len_of S1 q3] at K
  exact Go.via (fun t k => P.1.arraylength P.q.2.1 (cell := cl) (by rw [P.heap]; exact A.1) (State.isArrayOf_alike P.hz.alike A.2.1) (g := mkF m pc ls (.ref a :: st)) rfl (rest := st) rfl (hb P.q.2.2 hd) t k) K
theorem Pos.initO (P : Pos p l e R s m args below meth c code Z EL wl hS own vm0 T locs cells slots h) {idx : Nat} {a : Addr} {W : Nat} (w1 : (Cond.methodLink own idx Lib.objectInit).before a0 Z = true) (w2 : (Cond.instanceMethod Lib.objectInit).before a0 Z = true) (w3 : (Cond.code Lib.objectInit ⟨#[0xb1]⟩ 1 none).before a0 Z = true) (hsize : ls.size = c.maxLocals) (hf : 1 ≤ R.frames) (hW : (st.map fun v => v.category).sum ≤ W) (hl : W + 12 ≤ R.locals) (hd : decode code pc = .ok (.invokespecial idx, 3)) (hp : pc + 3 = pc1) (K : ∀ (T' : State), Pos p l e R s m args below meth c code Z EL wl hS own vm0 T' locs cells slots h → Go p.tables e below G (T'.setTop (mkF m pc1 ls st))) : Go p.tables e below G (T.setTop (mkF m pc ls (.ref a :: st))) := by
  subst hp
  obtain ⟨T', X', e', stp⟩ := RoadKit.initO P.1 P.q.2.1 P.hz P.2.2.2.2.1 w1 w2 w3 P.heap (g := mkF m pc ls (.ref a :: st)) rfl hsize rfl (hb P.q.2.2 hd) hf (W := W) (by show 2 * 0 + _ ≤ _; omega) hl
  exact Go.via stp (K T' (P.same X' e'))
theorem Pos.castY (P : Pos p l e R s m args below meth c code Z EL wl hS own vm0 T locs cells slots h) {C : String} {index : Nat} {a : Addr} (w : (Cond.classLink own index C).before a0 Z = true) (F : Ins Z h a C true) (hd : decode code pc = .ok (.checkcast index, 3)) (hp : pc + 3 = pc1) (K : ∀ (T' : State), Pos p l e R s m args below meth c code Z EL wl hS own vm0 T' locs cells slots h → Go p.tables e below G (T'.setTop (mkF m pc1 ls (.ref a :: st)))) : Go p.tables e below G (T.setTop (mkF m pc ls (.ref a :: st))) := by
  subst hp
  obtain ⟨T', X', e', stp⟩ := RoadKit.castY P.1 P.q.2.1 P.hz P.2.2.2.2.1 w P.heap F (g := mkF m pc ls (.ref a :: st)) rfl rfl (hb P.q.2.2 hd)
  exact Go.via stp (K T' (P.same X' e'))
theorem Pos.instY (P : Pos p l e R s m args below meth c code Z EL wl hS own vm0 T locs cells slots h) {C : String} {index : Nat} {a : Addr} (w : (Cond.classLink own index C).before a0 Z = true) (F : Ins Z h a C true) (hd : decode code pc = .ok (.instanceof index, 3)) (hp : pc + 3 = pc1) (K : ∀ (T' : State), Pos p l e R s m args below meth c code Z EL wl hS own vm0 T' locs cells slots h → Go p.tables e below G (T'.setTop (mkF m pc1 ls (.int 1 :: st)))) : Go p.tables e below G (T.setTop (mkF m pc ls (.ref a :: st))) := by
  subst hp
  obtain ⟨T', X', e', stp⟩ := RoadKit.instY P.1 P.q.2.1 P.hz P.2.2.2.2.1 w P.heap F (g := mkF m pc ls (.ref a :: st)) rfl rfl (hb P.q.2.2 hd)
  exact Go.via stp (K T' (P.same X' e'))
theorem Pos.instNull (P : Pos p l e R s m args below meth c code Z EL wl hS own vm0 T locs cells slots h) {index : Nat} (hd : decode code pc = .ok (.instanceof index, 3)) (hp : pc + 3 = pc1) (K : Go p.tables e below G (T.setTop (mkF m pc1 ls (.int 0 :: st)))) : Go p.tables e below G (T.setTop (mkF m pc ls (.null :: st))) := by
  subst hp; exact Go.via (P.1.instanceofNull P.q.2.1 (g := mkF m pc ls (.null :: st)) rfl rfl (hb P.q.2.2 hd)) K
theorem Pos.castNull (P : Pos p l e R s m args below meth c code Z EL wl hS own vm0 T locs cells slots h) {index : Nat} (hd : decode code pc = .ok (.checkcast index, 3)) (hp : pc + 3 = pc1) (K : Go p.tables e below G (T.setTop (mkF m pc1 ls (.null :: st)))) : Go p.tables e below G (T.setTop (mkF m pc ls (.null :: st))) := by
  subst hp; exact Go.via (P.1.checkcastNull P.q.2.1 (g := mkF m pc ls (.null :: st)) rfl rfl (hb P.q.2.2 hd)) K
theorem Pos.instNo (P : Pos p l e R s m args below meth c code Z EL wl hS own vm0 T locs cells slots h) {C D : String} {index : Nat} {a : Addr} (w : (Cond.classLink own index C).before a0 Z = true) (E : Exa Z h a D) (F : ∃ c t, Z.vm.findClass D = some c ∧ Z.vm.findClass C = some t ∧ Z.vm.assignable c t = false) (hd : decode code pc = .ok (.instanceof index, 3)) (hp : pc + 3 = pc1) (K : ∀ (T' : State), Pos p l e R s m args below meth c code Z EL wl hS own vm0 T' locs cells slots h → Go p.tables e below G (T'.setTop (mkF m pc1 ls (.int 0 :: st)))) : Go p.tables e below G (T.setTop (mkF m pc ls (.ref a :: st))) := by
  subst hp
  obtain ⟨T', X', e', stp⟩ := RoadKit.instNo P.1 P.q.2.1 P.hz P.2.2.2.2.1 w P.heap E F (g := mkF m pc ls (.ref a :: st)) rfl rfl (hb P.q.2.2 hd)
  exact Go.via stp (K T' (P.same X' e'))
theorem Pos.exc1 (P : Pos p l e R s m args below meth c code Z EL wl hS own vm0 T locs cells slots h) (htr : l.stackTraces = true) {rc : String} {links : List Jvm.Free.Exc.Link} {ic n : Nat} (hok : Jvm.Free.Exc.linksOk 1 links = true) (w1 : (Cond.methodLink own ic (Jvm.Free.Exc.ctor 1 (Jvm.Free.Exc.headName links))).before a0 Z = true) (w2 : (Cond.instanceMethod (Jvm.Free.Exc.ctor 1 (Jvm.Free.Exc.headName links))).before a0 Z = true) (wT : (Jvm.Free.Exc.chainTab 1 rc links).before a0 Z = true) (wi : (Cond.instantiable rc n).before a0 Z = true) (r : ∀ d ∈ twoRefs, d.before a0 Z = true)
    (hT0 : ThS Z hS) (hT : ThS Z h) (hTK : vm0.MethodsKnown) (hBelow : vm0.FramesKnown below) {a : Addr} (E : Exa Z h a rc) (N : Unt h a) (B : Fld Z h a Bundle.tN "backtrace" Jvm.Free.Exc.obD .null) (B2 : Fld Z h a Bundle.tN "detailMessage" Jvm.Free.Exc.msgD .null) {msg : Value} (hmsg : msg.isRef = true) (ga : a ∈ wl ∨ hS.size ≤ a) (S : Safe Z EL vm0 h a)
    (hsize : ls.size = c.maxLocals) {W : Nat} (hW : (st.map fun v => v.category).sum ≤ W) (hf : 4 + links.length ≤ R.frames) (hlo : W + (56 + 14 * links.length) ≤ R.locals) (hc : cells + 1 ≤ R.cells) (hsl : slots + 2752 ≤ R.slots) (hd : decode code pc = .ok (.invokespecial ic, 3)) (hp : pc + 3 = pc1)
    (K : ∀ (T' : State) (h' : Heap), Pos p l e R s m args below meth c code Z EL wl hS own vm0 T' (locs ++ sixLocs Z a) (cells + 1) (slots + 2752) h' → Kp Z h h' a → Exa Z h' a rc → Unt h' a → Fld Z h' a Bundle.tN "detailMessage" Jvm.Free.Exc.msgD msg → ThS Z h' → Go p.tables e below G (T'.setTop (mkF m pc1 ls st))) : Go p.tables e below G (T.setTop (mkF m pc ls (msg :: .ref a :: st))) := by
  subst hp
  obtain ⟨T', h', X', e', K', E', N', M', -, hT', stp⟩ := RoadKit.excL1 P.1 P.q.2.1 htr P.hz P.2.2.2.2.1 hok w1 w2 wT wi r (by have q := P.2.2.2.2.2.2.1; show ThS Z s.heap; rw [q]; exact hT0) hT hTK hBelow P.heap E N B B2 hmsg (g := mkF m pc ls (msg :: .ref a :: st)) rfl hsize rfl (hb P.q.2.2 hd) hf (by show 2 * 0 + _ + _ ≤ _; omega) hc hsl
  refine Go.via stp (K T' h' ?_ K' E' N' M' hT')
  have C' : CHr Z EL vm0 h vm0 h' := CHr.keep (keep_of_kp K') (sfS S sf0) P.chv
  obtain ⟨X, eT, hsi, hZ, hown, N, n1, C, hx, hby⟩ := P; obtain ⟨k0, q1, q2⟩ := hsi
  exact ⟨X', e', ⟨k0, q1, Nat.le_trans q2 C'.2.1⟩, hZ, hown, N.app (fun y hy => by obtain ⟨nd, -, rfl⟩ := List.mem_map.mp hy; exact ga), n1, C.trans C', hx, hby⟩
theorem Pos.alS (P : Pos p l e R s m args below meth c code Z EL wl hS own vm0 T locs cells slots h) : s.vm.Alike vm0 := by obtain ⟨k0, q1, q2⟩ := P.2.2.1; exact q1.1.alike
theorem Pos.ldcI (P : Pos p l e R s m args below meth c code Z EL wl hS own vm0 T locs cells slots h) {index : Nat} {v : Int32} (w : (Cond.constant own index v).before a0 Z = true) (hd : decode code pc = .ok (.ldc index, 2)) (hp : pc + 2 = pc1) (K : Go p.tables e below G (T.setTop (mkF m pc1 ls (.int v :: st)))) : Go p.tables e below G (T.setTop (mkF m pc ls st)) := by
  subst hp; exact Go.via (P.1.ldcInt P.q.2.1 P.2.2.2.2.1 (mvT P.hz w) (g := mkF m pc ls st) rfl (hb P.q.2.2 hd)) K
theorem Pos.ldc2J (P : Pos p l e R s m args below meth c code Z EL wl hS own vm0 T locs cells slots h) {index : Nat} {v : Int64} (w : (Cond.constantLong own index v).before a0 Z = true) (hd : decode code pc = .ok (.ldc2_w index, 3)) (hp : pc + 3 = pc1) (K : Go p.tables e below G (T.setTop (mkF m pc1 ls (.long v :: st)))) : Go p.tables e below G (T.setTop (mkF m pc ls st)) := by
  subst hp; exact Go.via (P.1.ldc2Long P.q.2.1 P.2.2.2.2.1 (mvT P.hz w) (g := mkF m pc ls st) rfl (hb P.q.2.2 hd)) K
theorem Pos.ldcF (P : Pos p l e R s m args below meth c code Z EL wl hS own vm0 T locs cells slots h) {index : Nat} {v : UInt32} (w : (Cond.constantFloat own index v).before a0 Z = true) (hd : decode code pc = .ok (.ldc index, 2)) (hp : pc + 2 = pc1) (K : Go p.tables e below G (T.setTop (mkF m pc1 ls (.float v :: st)))) : Go p.tables e below G (T.setTop (mkF m pc ls st)) := by
  subst hp; exact Go.via (P.1.ldcFloatC P.q.2.1 P.2.2.2.2.1 (mvT P.hz w) (g := mkF m pc ls st) rfl (hb P.q.2.2 hd)) K
theorem Pos.ldc2D (P : Pos p l e R s m args below meth c code Z EL wl hS own vm0 T locs cells slots h) {index : Nat} {v : UInt64} (w : (Cond.constantDouble own index v).before a0 Z = true) (hd : decode code pc = .ok (.ldc2_w index, 3)) (hp : pc + 3 = pc1) (K : Go p.tables e below G (T.setTop (mkF m pc1 ls (.double v :: st)))) : Go p.tables e below G (T.setTop (mkF m pc ls st)) := by
  subst hp; exact Go.via (P.1.ldc2DoubleC P.q.2.1 P.2.2.2.2.1 (mvT P.hz w) (g := mkF m pc ls st) rfl (hb P.q.2.2 hd)) K
theorem Pos.ldcO (P : Pos p l e R s m args below meth c code Z EL wl hS own vm0 T locs cells slots h) {index : Nat} {text : String} {n : Nat} (w : (Cond.stringLink own index text).before a0 Z = true) (wS : ∀ a ∈ Bundle.stringAtoms, a.before a0 Z = true) (hEL : EW Z a0 EL) (hn : 4 * text.toList.length ≤ n) (hbig : n ≤ 536870912) (hc : cells + 2 ≤ R.cells) (hl : slots + (n + 4) ≤ R.slots) (hd : decode code pc = .ok (.ldc index, 2)) (hp : pc + 2 = pc1)
    (K : ∀ (a : Addr) (T' : State) (h' : Heap), Pos p l e R s m args below meth c code Z EL wl hS own T'.vm T' locs (cells + 2) (slots + (n + 4)) h' → Ext h h' → CHr Z EL vm0 h T'.vm h' → Lit (s.setVm T'.vm) own index a → Go p.tables e below G (T'.setTop (mkF m pc1 ls (.ref a :: st)))) : Go p.tables e below G (T.setTop (mkF m pc ls st)) := by
  subst hp
  obtain ⟨X, eT, hsi, hZ, hown, N, n1, C, hx, hby⟩ := P
  obtain ⟨k0, q1, q2⟩ := hsi
  obtain ⟨a, T', h', k1, X', e', E', hS2, hk2, hW, hf, hC, hL, stp⟩ := RoadKit.ldcOH X hx hZ hown w wS eT q1 q2 hEL C.1 (g := mkF m pc ls st) rfl (hb hby hd) hn hbig hc hl
  exact Go.via stp (K a T' h' ⟨X', e', ⟨k1, hS2, hk2⟩, hW, hf, N, n1, C.trans hC, hx, hby⟩ E' hC hL)
theorem Pos.ldcR (P : Pos p l e R s m args below meth c code Z EL wl hS own vm0 T locs cells slots h) {index : Nat} {text : String} {n : Nat} (w : (Cond.stringLink own index text).before a0 Z = true) (wS : ∀ a ∈ Bundle.stringAtoms, a.before a0 Z = true) (hEL : EW Z a0 EL) (hmem : (own, index) ∈ EL) {vs : List Value} {z : Int32} (ht : (∀ c ∈ text.toList, c.toNat < 256) ∧ text.toList.map (fun c => Value.int (Jvm.Lit.byteI c.toNat.toUInt16)) = vs) (hz : ¬ z < 0) (hlz : z.toNatClampNeg = vs.length) (hn : 4 * text.toList.length ≤ n) (hbig : n ≤ 536870912) (hc : cells + 2 ≤ R.cells) (hl : slots + (n + 4) ≤ R.slots) (hd : decode code pc = .ok (.ldc index, 2)) (hp : pc + 2 = pc1)
    (K : ∀ (a : Addr) (T' : State) (h' : Heap) (b : Addr) (k : ClassId), Pos p l e R s m args below meth c code Z EL wl hS own T'.vm T' locs (cells + 2) (slots + (n + 4)) h' → Ext h h' → CHr Z EL vm0 h T'.vm h' → Exa Z h' a "java/lang/String" → Fld Z h' a "java/lang/String" "coder" "B" (.int 0) → Fld Z h' a "java/lang/String" "value" "[B" (.ref b) → Arv Z h' b k .byte z vs (.int 0) → (∀ x, Safe Z EL T'.vm h' x → x ≠ a ∧ x ≠ b) → Lit (s.setVm T'.vm) own index a → Go p.tables e below G (T'.setTop (mkF m pc1 ls (.ref a :: st)))) : Go p.tables e below G (T.setTop (mkF m pc ls st)) := by
  subst hp
  obtain ⟨X, eT, hsi, hZ, hown, N, n1, C, hx, hby⟩ := P
  obtain ⟨k0, q1, q2⟩ := hsi
  obtain ⟨a, T', h', k1, b, k, X', e', E', hS2, hk2, hW, hf, y1, y2, y3, y4, -, -, hC, hL, hne, stp⟩ := RoadKit.ldcCH X hx hZ hown w wS eT q1 q2 hEL hmem C.1 ht hz hlz (g := mkF m pc ls st) rfl (hb hby hd) hn hbig hc hl
  exact Go.via stp (K a T' h' b k ⟨X', e', ⟨k1, hS2, hk2⟩, hW, hf, N, n1, C.trans hC, hx, hby⟩ E' hC y1 y2 y3 y4 hne hL)
theorem Pos.callS (P : Pos p l e R s m args below meth c code Z EL wl hS own vm0 T locs cells slots h) {index : Nat} {y : MethodName} {bytes : ByteArray} {maxL : Nat} {ret : Option FieldType} {as' : Array Value} {rc rs W : Nat} {Q : Option Value → Heap → List Loc → Prop} {argsL st0 : List Value} (w1 : (Cond.methodLink own index y).before a0 Z = true) (w2 : (Cond.static y).before a0 Z = true) (w3 : (Cond.initialized y.cls).before a0 Z = true) (w4 : (Cond.code y bytes maxL ret).before a0 Z = true) (hy : y.cls ≠ "java/lang/invoke/MethodHandle" ∧ y.cls ≠ "java/lang/invoke/VarHandle") (hK : Back l R p e below (s.setVm vm0) args y 3 W (fun A a => a = as' ∧ A.U.heap = h ∧ A.cells + rc ≤ R.cells ∧ A.slots + rs ≤ R.slots) (fun A _ v B => ∃ L, Q v B.U.heap L ∧ B.locs = A.locs ++ L ∧ B.cells = A.cells + rc ∧ B.slots = A.slots + rs)) (hlen : ∀ sig, parseMethodDescriptor y.desc = some sig → argsL.length = sig.parameters.length) (hst : st = argsL.reverse ++ st0) (has : argsL.toArray = as') (hW : (st0.map fun v => v.category).sum ≤ W) (hsize : ls.size = c.maxLocals) (hc : cells + rc ≤ R.cells) (hs : slots + rs ≤ R.slots) (hF : ∀ v h' L, Q v h' L → Frw wl hS.size L ∧ CHr Z EL vm0 h vm0 h') (hd : decode code pc = .ok (.invokestatic index, 3)) (hp : pc + 3 = pc1)
    (K : ∀ (v : Option Value) (T' : State) (h' : Heap) (L : List Loc), Q v h' L → Pos p l e R s m args below meth c code Z EL wl hS own vm0 T' (locs ++ L) (cells + rc) (slots + rs) h' → Go p.tables e below G (T'.setTop (mkF m pc1 ls (v.toList ++ st0)))) : Go p.tables e below G (T.setTop (mkF m pc ls st)) := by
  subst hp
  obtain ⟨v, vm₁, ⟨U, Lx, cx, sx⟩, -, X', ⟨L, hQ, l1, l2, l3⟩, stp⟩ := Jvm.LawKit.callS P.1 P.q.2.1 P.2.2.2.2.1 (mvT P.hz w1) (mvT P.hz w2) (mvT P.hz w3) (mvT P.hz w4) hy hK (g := mkF m pc ls st) rfl hsize (argsL := argsL) (rest := st0) hlen hst (by show 2 * 0 + _ ≤ _; omega) (hb P.q.2.2 hd) (fun _ _ => ⟨has, P.heap, hc, hs⟩)
  dsimp only [Pt.U, Pt.locs, Pt.cells, Pt.slots] at *
  subst l1 l2 l3
  exact Go.via stp (K v U _ L hQ (P.came X' (hF _ _ _ hQ).1 (hF _ _ _ hQ).2))
theorem Pos.callN (P : Pos p l e R s m args below meth c code Z EL wl hS own vm0 T locs cells slots h) {index : Nat} {y : MethodName} {bytes : ByteArray} {maxL : Nat} {x : Addr} {as' : Array Value} {rc rs W : Nat} {Q : Option Value → Heap → List Loc → Prop} {argsL st0 : List Value} (hy1 : y.name = "<init>") (w1 : (Cond.methodLink own index y).before a0 Z = true) (w2 : (Cond.instanceMethod y).before a0 Z = true) (w4 : (Cond.code y bytes maxL none).before a0 Z = true) (hy : y.cls ≠ "java/lang/invoke/MethodHandle" ∧ y.cls ≠ "java/lang/invoke/VarHandle") (hK : Back l R p e below (s.setVm vm0) args y 3 W (fun A a => a = as' ∧ A.U.heap = h ∧ A.cells + rc ≤ R.cells ∧ A.slots + rs ≤ R.slots) (fun A _ v B => ∃ L, Q v B.U.heap L ∧ B.locs = A.locs ++ L ∧ B.cells = A.cells + rc ∧ B.slots = A.slots + rs)) (hlen : ∀ sig, parseMethodDescriptor y.desc = some sig → argsL.length = sig.parameters.length) (hst : st = argsL.reverse ++ .ref x :: st0) (has : (.ref x :: argsL).toArray = as') (hW : (st0.map fun v => v.category).sum ≤ W) (hsize : ls.size = c.maxLocals) (hc : cells + rc ≤ R.cells) (hs : slots + rs ≤ R.slots) (hF : ∀ v h' L, Q v h' L → Frw wl hS.size L ∧ CHr Z EL vm0 h vm0 h') (hd : decode code pc = .ok (.invokespecial index, 3)) (hp : pc + 3 = pc1)
    (K : ∀ (v : Option Value) (T' : State) (h' : Heap) (L : List Loc), Q v h' L → Pos p l e R s m args below meth c code Z EL wl hS own vm0 T' (locs ++ L) (cells + rc) (slots + rs) h' → Go p.tables e below G (T'.setTop (mkF m pc1 ls (v.toList ++ st0)))) : Go p.tables e below G (T.setTop (mkF m pc ls st)) := by
  subst hp
  obtain ⟨v, vm₁, ⟨U, Lx, cx, sx⟩, -, X', ⟨L, hQ, l1, l2, l3⟩, stp⟩ := Stand.specialBack P.1 P.q.2.1 hy1 P.2.2.2.2.1 (mvT P.hz w1) (mvT P.hz w2) (mvT P.hz w4) hy hK (g := mkF m pc ls st) rfl hsize (Steps.refl _) (a := x) (argsL := argsL) (rest := st0) hlen hst (by show 2 * 0 + _ ≤ _; omega) (hb P.q.2.2 hd) (fun _ _ => ⟨has, P.heap, hc, hs⟩)
  dsimp only [Pt.U, Pt.locs, Pt.cells, Pt.slots] at *
  subst l1 l2 l3
  exact Go.tr stp (K v U _ L hQ (P.came X' (hF _ _ _ hQ).1 (hF _ _ _ hQ).2))
theorem Pos.callV (P : Pos p l e R s m args below meth c code Z EL wl hS own vm0 T locs cells slots h) {index : Nat} {y z : MethodName} {x : Addr} {C : String} {as' : Array Value} {rc rs W : Nat} {Q : Option Value → Heap → List Loc → Prop} {argsL st0 : List Value} (E : Exa Z h x C) (w1 : (Cond.methodLink own index y).before a0 Z = true) (w2 : (Cond.declares y).before a0 Z = true) (w3 : (Cond.selects C y z).before a0 Z = true) (w4 : (Cond.instanceMethod z).before a0 Z = true) (nf : NotFace (s.setVm vm0) y) (hy : y.cls ≠ "java/lang/invoke/MethodHandle" ∧ y.cls ≠ "java/lang/invoke/VarHandle") (hK : Back l R p e below (s.setVm vm0) args z 3 W (fun A a => a = as' ∧ A.U.heap = h ∧ A.cells + rc ≤ R.cells ∧ A.slots + rs ≤ R.slots) (fun A _ v B => ∃ L, Q v B.U.heap L ∧ B.locs = A.locs ++ L ∧ B.cells = A.cells + rc ∧ B.slots = A.slots + rs)) (hlen : ∀ sig, parseMethodDescriptor y.desc = some sig → argsL.length = sig.parameters.length) (hst : st = argsL.reverse ++ .ref x :: st0) (has : (.ref x :: argsL).toArray = as') (hW : (st0.map fun v => v.category).sum ≤ W) (hsize : ls.size = c.maxLocals) (hc : cells + rc ≤ R.cells) (hs : slots + rs ≤ R.slots) (hF : ∀ v h' L, Q v h' L → Frw wl hS.size L ∧ CHr Z EL vm0 h vm0 h') (hd : decode code pc = .ok (.invokevirtual index, 3)) (hp : pc + 3 = pc1)
    (K : ∀ (v : Option Value) (T' : State) (h' : Heap) (L : List Loc), Q v h' L → Pos p l e R s m args below meth c code Z EL wl hS own vm0 T' (locs ++ L) (cells + rc) (slots + rs) h' → Go p.tables e below G (T'.setTop (mkF m pc1 ls (v.toList ++ st0)))) : Go p.tables e below G (T.setTop (mkF m pc ls st)) := by
  subst hp
  obtain ⟨cq, kq, qa, qb, qc⟩ := isOf P.hz P.heap E
  obtain ⟨v, vm₁, ⟨U, Lx, cx, sx⟩, -, X', ⟨L, hQ, l1, l2, l3⟩, stp⟩ := Stand.virtualBack P.1 P.q.2.1 (y := y) (z := z) P.2.2.2.2.1 (mvT P.hz w1) (mvT P.hz w2) nf (mvT P.hz w3) (mvT P.hz w4) hy hK qa qc (g := mkF m pc ls st) rfl hsize (Steps.refl _) (argsL := argsL) (rest := st0) hlen hst (by show 2 * 0 + _ ≤ _; omega) (hb P.q.2.2 hd) (fun _ _ => ⟨has, P.heap, hc, hs⟩)
  dsimp only [Pt.U, Pt.locs, Pt.cells, Pt.slots] at *
  subst l1 l2 l3
  exact Go.tr stp (K v U _ L hQ (P.came X' (hF _ _ _ hQ).1 (hF _ _ _ hQ).2))
theorem Pos.callVU (P : Pos p l e R s m args below meth c code Z EL wl hS own vm0 T locs cells slots h) {index : Nat} {y z : MethodName} {x : Addr} {C owner : String} {as' : Array Value} {rc rs W : Nat} {Q : Option Value → Heap → List Loc → Prop} {argsL st0 : List Value} (E : Exa Z h x C) (w1 : (Cond.methodLink own index y).before a0 Z = true) (w2 : (Cond.sameMethod y.cls owner y.name y.desc).before a0 Z = true) (w5 : (Cond.declares ⟨owner, y.name, y.desc⟩).before a0 Z = true) (hy : owner ≠ "java/lang/invoke/MethodHandle" ∧ owner ≠ "java/lang/invoke/VarHandle") (w3 : (Cond.selects C y z).before a0 Z = true) (w4 : (Cond.instanceMethod z).before a0 Z = true) (hK : Back l R p e below (s.setVm vm0) args z 3 W (fun A a => a = as' ∧ A.U.heap = h ∧ A.cells + rc ≤ R.cells ∧ A.slots + rs ≤ R.slots) (fun A _ v B => ∃ L, Q v B.U.heap L ∧ B.locs = A.locs ++ L ∧ B.cells = A.cells + rc ∧ B.slots = A.slots + rs)) (hlen : ∀ sig, parseMethodDescriptor y.desc = some sig → argsL.length = sig.parameters.length) (hst : st = argsL.reverse ++ .ref x :: st0) (has : (.ref x :: argsL).toArray = as') (hW : (st0.map fun v => v.category).sum ≤ W) (hsize : ls.size = c.maxLocals) (hc : cells + rc ≤ R.cells) (hs : slots + rs ≤ R.slots) (hF : ∀ v h' L, Q v h' L → Frw wl hS.size L ∧ CHr Z EL vm0 h vm0 h') (hd : decode code pc = .ok (.invokevirtual index, 3)) (hp : pc + 3 = pc1)
    (K : ∀ (v : Option Value) (T' : State) (h' : Heap) (L : List Loc), Q v h' L → Pos p l e R s m args below meth c code Z EL wl hS own vm0 T' (locs ++ L) (cells + rc) (slots + rs) h' → Go p.tables e below G (T'.setTop (mkF m pc1 ls (v.toList ++ st0)))) : Go p.tables e below G (T.setTop (mkF m pc ls st)) := by
  subst hp
  obtain ⟨cq, kq, qa, qb, qc⟩ := isOf P.hz P.heap E
  obtain ⟨v, vm₁, ⟨U, Lx, cx, sx⟩, -, X', ⟨L, hQ, l1, l2, l3⟩, stp⟩ := Stand.virtualBackUp P.1 P.q.2.1 (x := y) (y := z) P.2.2.2.2.1 (mvT P.hz w1) (mvT P.hz w2) (mvT P.hz w5) hy (mvT P.hz w3) (mvT P.hz w4) hK qa qc (g := mkF m pc ls st) rfl hsize (Steps.refl _) (argsL := argsL) (rest := st0) hlen hst (by show 2 * 0 + _ ≤ _; omega) (hb P.q.2.2 hd) (fun _ _ => ⟨has, P.heap, hc, hs⟩)
  dsimp only [Pt.U, Pt.locs, Pt.cells, Pt.slots] at *
  subst l1 l2 l3
  exact Go.tr stp (K v U _ L hQ (P.came X' (hF _ _ _ hQ).1 (hF _ _ _ hQ).2))
theorem Pos.callI (P : Pos p l e R s m args below meth c code Z EL wl hS own vm0 T locs cells slots h) {index count : Nat} {xi y : MethodName} {x : Addr} {C : String} {as' : Array Value} {rc rs W : Nat} {Q : Option Value → Heap → List Loc → Prop} {argsL st0 : List Value} (E : Exa Z h x C) (w1 : (Cond.methodLink own index xi).before a0 Z = true) (w2 : (Cond.declares xi).before a0 Z = true) (w3 : (Cond.interfaceMethod xi.cls xi.cls xi.name xi.desc).before a0 Z = true) (h3 : ((Cond.interfaceMethod xi.cls xi.cls xi.name xi.desc).onTables && (Cond.interfaceMethod xi.cls xi.cls xi.name xi.desc).keepsFace) = true) (w4 : (Cond.selects C xi y).before a0 Z = true) (w5 : (Cond.instanceMethod y).before a0 Z = true) (w6 : (Cond.publicMethod y).before a0 Z = true) (w7 : (Cond.unhidden C xi.name xi.desc).before a0 Z = true) (w8 : (Cond.castable C xi.cls).before a0 Z = true) (hy : xi.cls ≠ "java/lang/invoke/MethodHandle" ∧ xi.cls ≠ "java/lang/invoke/VarHandle") (hK : Back l R p e below (s.setVm vm0) args y 5 W (fun A a => a = as' ∧ A.U.heap = h ∧ A.cells + rc ≤ R.cells ∧ A.slots + rs ≤ R.slots) (fun A _ v B => ∃ L, Q v B.U.heap L ∧ B.locs = A.locs ++ L ∧ B.cells = A.cells + rc ∧ B.slots = A.slots + rs)) (hlen : ∀ sig, parseMethodDescriptor xi.desc = some sig → argsL.length = sig.parameters.length) (hst : st = argsL.reverse ++ .ref x :: st0) (has : (.ref x :: argsL).toArray = as') (hW : (st0.map fun v => v.category).sum ≤ W) (hsize : ls.size = c.maxLocals) (hc : cells + rc ≤ R.cells) (hs : slots + rs ≤ R.slots) (hF : ∀ v h' L, Q v h' L → Frw wl hS.size L ∧ CHr Z EL vm0 h vm0 h') (hd : decode code pc = .ok (.invokeinterface index count, 5)) (hp : pc + 5 = pc1)
    (K : ∀ (v : Option Value) (T' : State) (h' : Heap) (L : List Loc), Q v h' L → Pos p l e R s m args below meth c code Z EL wl hS own vm0 T' (locs ++ L) (cells + rc) (slots + rs) h' → Go p.tables e below G (T'.setTop (mkF m pc1 ls (v.toList ++ st0)))) : Go p.tables e below G (T.setTop (mkF m pc ls st)) := by
  subst hp
  obtain ⟨cq, kq, qa, qb, qc⟩ := isOf P.hz P.heap E
  obtain ⟨v, vm₁, ⟨U, Lx, cx, sx⟩, -, X', ⟨L, hQ, l1, l2, l3⟩, stp⟩ := Stand.interfaceBack P.1 P.q.2.1 P.2.2.2.2.1 (mvT P.hz w1) (mvT P.hz w2) (mvT P.hz w3 h3) (mvT P.hz w4) (mvT P.hz w5) (mvT P.hz w6) (mvT P.hz w7) (mvT P.hz w8) hy hK qa qb qc (g := mkF m pc ls st) rfl hsize (Steps.refl _) (argsL := argsL) (rest := st0) hlen hst (by show 2 * 0 + _ ≤ _; omega) (hb P.q.2.2 hd) (fun _ _ => ⟨has, P.heap, hc, hs⟩)
  dsimp only [Pt.U, Pt.locs, Pt.cells, Pt.slots] at *
  subst l1 l2 l3
  exact Go.tr stp (K v U _ L hQ (P.came X' (hF _ _ _ hQ).1 (hF _ _ _ hQ).2))
theorem Pos.callSW (P : Pos p l e R s m args below meth c code Z EL wl hS own vm0 T locs cells slots h) {index : Nat} {y : MethodName} {bytes : ByteArray} {maxL : Nat} {ret : Option FieldType} {as' : Array Value} {rc rs W : Nat} {Q : Option Value → Heap → List Loc → Prop} {argsL st0 : List Value} (w1 : (Cond.methodLink own index y).before a0 Z = true) (w2 : (Cond.static y).before a0 Z = true) (w3 : (Cond.initialized y.cls).before a0 Z = true) (w4 : (Cond.code y bytes maxL ret).before a0 Z = true) (hy : y.cls ≠ "java/lang/invoke/MethodHandle" ∧ y.cls ≠ "java/lang/invoke/VarHandle") (hK : BackS l R p e below (s.setVm vm0) args y 3 W (fun A a => a = as' ∧ A.U.heap = h ∧ A.cells + rc ≤ R.cells ∧ A.slots + rs ≤ R.slots) (fun A _ v B => ∃ L, Q v B.U.heap L ∧ B.locs = A.locs ++ L ∧ B.cells = A.cells + rc ∧ B.slots = A.slots + rs ∧ CHr Z EL vm0 h B.U.vm B.U.heap)) (hlen : ∀ sig, parseMethodDescriptor y.desc = some sig → argsL.length = sig.parameters.length) (hst : st = argsL.reverse ++ st0) (has : argsL.toArray = as') (hW : (st0.map fun v => v.category).sum ≤ W) (hsize : ls.size = c.maxLocals) (hc : cells + rc ≤ R.cells) (hs : slots + rs ≤ R.slots) (hF : ∀ v h' L, Q v h' L → Frw wl hS.size L) (hd : decode code pc = .ok (.invokestatic index, 3)) (hp : pc + 3 = pc1)
    (K : ∀ (v : Option Value) (T' : State) (h' : Heap) (L : List Loc), Q v h' L → Pos p l e R s m args below meth c code Z EL wl hS own T'.vm T' (locs ++ L) (cells + rc) (slots + rs) h' → CHr Z EL vm0 h T'.vm h' → Go p.tables e below G (T'.setTop (mkF m pc1 ls (v.toList ++ st0)))) : Go p.tables e below G (T.setTop (mkF m pc ls st)) := by
  subst hp
  obtain ⟨v, vm₁, ⟨U, Lx, cx, sx⟩, -, X', hS', hgr, ⟨L, hQ, l1, l2, l3, hC⟩, stp⟩ := RoadKit.callSS P.1 P.q.2.1 P.2.2.2.2.1 (mvT P.hz w1) (mvT P.hz w2) (mvT P.hz w3) (mvT P.hz w4) hy hK (g := mkF m pc ls st) rfl hsize (argsL := argsL) (rest := st0) hlen hst (by show 2 * 0 + _ ≤ _; omega) (hb P.q.2.2 hd) (fun _ _ => ⟨has, P.heap, hc, hs⟩)
  dsimp only [Pt.U, Pt.locs, Pt.cells, Pt.slots] at *
  subst l1 l2 l3
  rw [P.heap] at hgr
  exact Go.tr stp (K v U _ L hQ (P.cameW X' hS' hgr (hF _ _ _ hQ) hC) hC)
theorem Pos.callNW (P : Pos p l e R s m args below meth c code Z EL wl hS own vm0 T locs cells slots h) {index : Nat} {y : MethodName} {bytes : ByteArray} {maxL : Nat} {x : Addr} {as' : Array Value} {rc rs W : Nat} {Q : Option Value → Heap → List Loc → Prop} {argsL st0 : List Value} (hy1 : y.name = "<init>") (w1 : (Cond.methodLink own index y).before a0 Z = true) (w2 : (Cond.instanceMethod y).before a0 Z = true) (w4 : (Cond.code y bytes maxL none).before a0 Z = true) (hy : y.cls ≠ "java/lang/invoke/MethodHandle" ∧ y.cls ≠ "java/lang/invoke/VarHandle") (hK : BackS l R p e below (s.setVm vm0) args y 3 W (fun A a => a = as' ∧ A.U.heap = h ∧ A.cells + rc ≤ R.cells ∧ A.slots + rs ≤ R.slots) (fun A _ v B => ∃ L, Q v B.U.heap L ∧ B.locs = A.locs ++ L ∧ B.cells = A.cells + rc ∧ B.slots = A.slots + rs ∧ CHr Z EL vm0 h B.U.vm B.U.heap)) (hlen : ∀ sig, parseMethodDescriptor y.desc = some sig → argsL.length = sig.parameters.length) (hst : st = argsL.reverse ++ .ref x :: st0) (has : (.ref x :: argsL).toArray = as') (hW : (st0.map fun v => v.category).sum ≤ W) (hsize : ls.size = c.maxLocals) (hc : cells + rc ≤ R.cells) (hs : slots + rs ≤ R.slots) (hF : ∀ v h' L, Q v h' L → Frw wl hS.size L) (hd : decode code pc = .ok (.invokespecial index, 3)) (hp : pc + 3 = pc1)
    (K : ∀ (v : Option Value) (T' : State) (h' : Heap) (L : List Loc), Q v h' L → Pos p l e R s m args below meth c code Z EL wl hS own T'.vm T' (locs ++ L) (cells + rc) (slots + rs) h' → CHr Z EL vm0 h T'.vm h' → Go p.tables e below G (T'.setTop (mkF m pc1 ls (v.toList ++ st0)))) : Go p.tables e below G (T.setTop (mkF m pc ls st)) := by
  subst hp
  obtain ⟨v, vm₁, ⟨U, Lx, cx, sx⟩, -, X', hS', hgr, ⟨L, hQ, l1, l2, l3, hC⟩, stp⟩ := Stand.specialBackS P.1 P.q.2.1 hy1 P.2.2.2.2.1 (mvT P.hz w1) (mvT P.hz w2) (mvT P.hz w4) hy hK (g := mkF m pc ls st) rfl hsize (Steps.refl _) (a := x) (argsL := argsL) (rest := st0) hlen hst (by show 2 * 0 + _ ≤ _; omega) (hb P.q.2.2 hd) (fun _ _ => ⟨has, P.heap, hc, hs⟩)
  dsimp only [Pt.U, Pt.locs, Pt.cells, Pt.slots] at *
  subst l1 l2 l3
  rw [P.heap] at hgr
  exact Go.tr stp (K v U _ L hQ (P.cameW X' hS' hgr (hF _ _ _ hQ) hC) hC)
theorem Pos.callVW (P : Pos p l e R s m args below meth c code Z EL wl hS own vm0 T locs cells slots h) {index : Nat} {y z : MethodName} {x : Addr} {C : String} {as' : Array Value} {rc rs W : Nat} {Q : Option Value → Heap → List Loc → Prop} {argsL st0 : List Value} (E : Exa Z h x C) (w1 : (Cond.methodLink own index y).before a0 Z = true) (w2 : (Cond.declares y).before a0 Z = true) (w3 : (Cond.selects C y z).before a0 Z = true) (w4 : (Cond.instanceMethod z).before a0 Z = true) (nf : NotFace (s.setVm vm0) y) (hy : y.cls ≠ "java/lang/invoke/MethodHandle" ∧ y.cls ≠ "java/lang/invoke/VarHandle") (hK : BackS l R p e below (s.setVm vm0) args z 3 W (fun A a => a = as' ∧ A.U.heap = h ∧ A.cells + rc ≤ R.cells ∧ A.slots + rs ≤ R.slots) (fun A _ v B => ∃ L, Q v B.U.heap L ∧ B.locs = A.locs ++ L ∧ B.cells = A.cells + rc ∧ B.slots = A.slots + rs ∧ CHr Z EL vm0 h B.U.vm B.U.heap)) (hlen : ∀ sig, parseMethodDescriptor y.desc = some sig → argsL.length = sig.parameters.length) (hst : st = argsL.reverse ++ .ref x :: st0) (has : (.ref x :: argsL).toArray = as') (hW : (st0.map fun v => v.category).sum ≤ W) (hsize : ls.size = c.maxLocals) (hc : cells + rc ≤ R.cells) (hs : slots + rs ≤ R.slots) (hF : ∀ v h' L, Q v h' L → Frw wl hS.size L) (hd : decode code pc = .ok (.invokevirtual index, 3)) (hp : pc + 3 = pc1)
    (K : ∀ (v : Option Value) (T' : State) (h' : Heap) (L : List Loc), Q v h' L → Pos p l e R s m args below meth c code Z EL wl hS own T'.vm T' (locs ++ L) (cells + rc) (slots + rs) h' → CHr Z EL vm0 h T'.vm h' → Go p.tables e below G (T'.setTop (mkF m pc1 ls (v.toList ++ st0)))) : Go p.tables e below G (T.setTop (mkF m pc ls st)) := by
  subst hp
  obtain ⟨cq, kq, qa, qb, qc⟩ := isOf P.hz P.heap E
  obtain ⟨v, vm₁, ⟨U, Lx, cx, sx⟩, -, X', hS', hgr, ⟨L, hQ, l1, l2, l3, hC⟩, stp⟩ := Stand.virtualBackS P.1 P.q.2.1 (y := y) (z := z) P.2.2.2.2.1 (mvT P.hz w1) (mvT P.hz w2) nf (mvT P.hz w3) (mvT P.hz w4) hy hK qa qc (g := mkF m pc ls st) rfl hsize (Steps.refl _) (argsL := argsL) (rest := st0) hlen hst (by show 2 * 0 + _ ≤ _; omega) (hb P.q.2.2 hd) (fun _ _ => ⟨has, P.heap, hc, hs⟩)
  dsimp only [Pt.U, Pt.locs, Pt.cells, Pt.slots] at *
  subst l1 l2 l3
  rw [P.heap] at hgr
  exact Go.tr stp (K v U _ L hQ (P.cameW X' hS' hgr (hF _ _ _ hQ) hC) hC)
theorem Pos.callVUW (P : Pos p l e R s m args below meth c code Z EL wl hS own vm0 T locs cells slots h) {index : Nat} {y z : MethodName} {x : Addr} {C owner : String} {as' : Array Value} {rc rs W : Nat} {Q : Option Value → Heap → List Loc → Prop} {argsL st0 : List Value} (E : Exa Z h x C) (w1 : (Cond.methodLink own index y).before a0 Z = true) (w2 : (Cond.sameMethod y.cls owner y.name y.desc).before a0 Z = true) (w5 : (Cond.declares ⟨owner, y.name, y.desc⟩).before a0 Z = true) (hy : owner ≠ "java/lang/invoke/MethodHandle" ∧ owner ≠ "java/lang/invoke/VarHandle") (w3 : (Cond.selects C y z).before a0 Z = true) (w4 : (Cond.instanceMethod z).before a0 Z = true) (hK : BackS l R p e below (s.setVm vm0) args z 3 W (fun A a => a = as' ∧ A.U.heap = h ∧ A.cells + rc ≤ R.cells ∧ A.slots + rs ≤ R.slots) (fun A _ v B => ∃ L, Q v B.U.heap L ∧ B.locs = A.locs ++ L ∧ B.cells = A.cells + rc ∧ B.slots = A.slots + rs ∧ CHr Z EL vm0 h B.U.vm B.U.heap)) (hlen : ∀ sig, parseMethodDescriptor y.desc = some sig → argsL.length = sig.parameters.length) (hst : st = argsL.reverse ++ .ref x :: st0) (has : (.ref x :: argsL).toArray = as') (hW : (st0.map fun v => v.category).sum ≤ W) (hsize : ls.size = c.maxLocals) (hc : cells + rc ≤ R.cells) (hs : slots + rs ≤ R.slots) (hF : ∀ v h' L, Q v h' L → Frw wl hS.size L) (hd : decode code pc = .ok (.invokevirtual index, 3)) (hp : pc + 3 = pc1)
    (K : ∀ (v : Option Value) (T' : State) (h' : Heap) (L : List Loc), Q v h' L → Pos p l e R s m args below meth c code Z EL wl hS own T'.vm T' (locs ++ L) (cells + rc) (slots + rs) h' → CHr Z EL vm0 h T'.vm h' → Go p.tables e below G (T'.setTop (mkF m pc1 ls (v.toList ++ st0)))) : Go p.tables e below G (T.setTop (mkF m pc ls st)) := by
  subst hp
  obtain ⟨cq, kq, qa, qb, qc⟩ := isOf P.hz P.heap E
  obtain ⟨v, vm₁, ⟨U, Lx, cx, sx⟩, -, X', hS', hgr, ⟨L, hQ, l1, l2, l3, hC⟩, stp⟩ := Stand.virtualBackUpS P.1 P.q.2.1 (x := y) (y := z) P.2.2.2.2.1 (mvT P.hz w1) (mvT P.hz w2) (mvT P.hz w5) hy (mvT P.hz w3) (mvT P.hz w4) hK qa qc (g := mkF m pc ls st) rfl hsize (Steps.refl _) (argsL := argsL) (rest := st0) hlen hst (by show 2 * 0 + _ ≤ _; omega) (hb P.q.2.2 hd) (fun _ _ => ⟨has, P.heap, hc, hs⟩)
  dsimp only [Pt.U, Pt.locs, Pt.cells, Pt.slots] at *
  subst l1 l2 l3
  rw [P.heap] at hgr
  exact Go.tr stp (K v U _ L hQ (P.cameW X' hS' hgr (hF _ _ _ hQ) hC) hC)
theorem Pos.callIW (P : Pos p l e R s m args below meth c code Z EL wl hS own vm0 T locs cells slots h) {index count : Nat} {xi y : MethodName} {x : Addr} {C : String} {as' : Array Value} {rc rs W : Nat} {Q : Option Value → Heap → List Loc → Prop} {argsL st0 : List Value} (E : Exa Z h x C) (w1 : (Cond.methodLink own index xi).before a0 Z = true) (w2 : (Cond.declares xi).before a0 Z = true) (w3 : (Cond.interfaceMethod xi.cls xi.cls xi.name xi.desc).before a0 Z = true) (h3 : ((Cond.interfaceMethod xi.cls xi.cls xi.name xi.desc).onTables && (Cond.interfaceMethod xi.cls xi.cls xi.name xi.desc).keepsFace) = true) (w4 : (Cond.selects C xi y).before a0 Z = true) (w5 : (Cond.instanceMethod y).before a0 Z = true) (w6 : (Cond.publicMethod y).before a0 Z = true) (w7 : (Cond.unhidden C xi.name xi.desc).before a0 Z = true) (w8 : (Cond.castable C xi.cls).before a0 Z = true) (hy : xi.cls ≠ "java/lang/invoke/MethodHandle" ∧ xi.cls ≠ "java/lang/invoke/VarHandle") (hK : BackS l R p e below (s.setVm vm0) args y 5 W (fun A a => a = as' ∧ A.U.heap = h ∧ A.cells + rc ≤ R.cells ∧ A.slots + rs ≤ R.slots) (fun A _ v B => ∃ L, Q v B.U.heap L ∧ B.locs = A.locs ++ L ∧ B.cells = A.cells + rc ∧ B.slots = A.slots + rs ∧ CHr Z EL vm0 h B.U.vm B.U.heap)) (hlen : ∀ sig, parseMethodDescriptor xi.desc = some sig → argsL.length = sig.parameters.length) (hst : st = argsL.reverse ++ .ref x :: st0) (has : (.ref x :: argsL).toArray = as') (hW : (st0.map fun v => v.category).sum ≤ W) (hsize : ls.size = c.maxLocals) (hc : cells + rc ≤ R.cells) (hs : slots + rs ≤ R.slots) (hF : ∀ v h' L, Q v h' L → Frw wl hS.size L) (hd : decode code pc = .ok (.invokeinterface index count, 5)) (hp : pc + 5 = pc1)
    (K : ∀ (v : Option Value) (T' : State) (h' : Heap) (L : List Loc), Q v h' L → Pos p l e R s m args below meth c code Z EL wl hS own T'.vm T' (locs ++ L) (cells + rc) (slots + rs) h' → CHr Z EL vm0 h T'.vm h' → Go p.tables e below G (T'.setTop (mkF m pc1 ls (v.toList ++ st0)))) : Go p.tables e below G (T.setTop (mkF m pc ls st)) := by
  subst hp
  obtain ⟨cq, kq, qa, qb, qc⟩ := isOf P.hz P.heap E
  obtain ⟨v, vm₁, ⟨U, Lx, cx, sx⟩, -, X', hS', hgr, ⟨L, hQ, l1, l2, l3, hC⟩, stp⟩ := Stand.interfaceBackS P.1 P.q.2.1 P.2.2.2.2.1 (mvT P.hz w1) (mvT P.hz w2) (mvT P.hz w3 h3) (mvT P.hz w4) (mvT P.hz w5) (mvT P.hz w6) (mvT P.hz w7) (mvT P.hz w8) hy hK qa qb qc (g := mkF m pc ls st) rfl hsize (Steps.refl _) (argsL := argsL) (rest := st0) hlen hst (by show 2 * 0 + _ ≤ _; omega) (hb P.q.2.2 hd) (fun _ _ => ⟨has, P.heap, hc, hs⟩)
  dsimp only [Pt.U, Pt.locs, Pt.cells, Pt.slots] at *
  subst l1 l2 l3
  rw [P.heap] at hgr
  exact Go.tr stp (K v U _ L hQ (P.cameW X' hS' hgr (hF _ _ _ hQ) hC) hC)
/-- what a body leaves, narrow: nothing interned -/
def GN (s : State) (Q : Option Value → Heap → List Loc → Prop) (rm : Room) (o : Outcome) (U : State) : Prop := ∃ v L, o = .returned v ∧ Q v U.heap L ∧ FrameEnd s o U L rm.cells rm.slots
/-- wide -/
def GW (s : State) (Z : State) (EL : List (String × Nat)) (h0 : Heap) (Q : Option Value → Heap → List Loc → Prop) (rm : Room) (o : Outcome) (U : State) : Prop := ∃ v L, o = .returned v ∧ Q v U.heap L ∧ CHr Z EL s.vm h0 U.vm U.heap ∧ ReturnedEndW s o U L rm.cells rm.slots
theorem Pos.endN {Q : Option Value → Heap → List Loc → Prop} {v : Option Value} (P : Pos p l e R s m args below meth c code Z EL wl hS own s.vm T locs cells slots h) (hlk : meth.locks = false) (hv : meth.sig.returnType = none → v = none) (hc : cells ≤ R.cells) (hs : slots ≤ R.slots) (hQ : Q v h locs) {g : JFrame}
    (stp : ∀ fs, (∀ (f : JFrame) (acts : List Action), f.method = m → f.locked = none → f.entered = [] → (doReturn e (T.setTop f) acts v).1 = T.setFrames fs) → Steps p.tables e below (T.setTop g) (T.setFrames fs)) : Go p.tables e below (GN s Q R) (T.setTop g) := by
  obtain ⟨fs, hr, hrun, hended, hW, hsame⟩ := P.1.leave (v := v) hv hlk
  refine ⟨_, _, stp fs hr, hrun, hended, v, locs, rfl, ?_, ⟨_, rfl⟩, hW, hsame.mono hc hs⟩
  have : (T.setFrames fs).heap = h := P.heap
  rw [this]; exact hQ
theorem Pos.endW {Q : Option Value → Heap → List Loc → Prop} {v : Option Value} (P : Pos p l e R s m args below meth c code Z EL wl hS own vm0 T locs cells slots h) (hEL : EW Z a0 EL) (hlk : meth.locks = false) (hv : meth.sig.returnType = none → v = none) (hc : cells ≤ R.cells) (hs : slots ≤ R.slots) (hQ : Q v h locs) {g : JFrame}
    (stp : ∀ fs, (∀ (f : JFrame) (acts : List Action), f.method = m → f.locked = none → f.entered = [] → (doReturn e (T.setTop f) acts v).1 = T.setFrames fs) → Steps p.tables e below (T.setTop g) (T.setFrames fs)) : Go p.tables e below (GW s Z EL hS Q R) (T.setTop g) := by
  obtain ⟨X, eT, ⟨k0, q1, q2⟩, hZ, hown, N, n1, C, hx, hby⟩ := P
  have X2 := X.mono hc hs
  obtain ⟨fs, hr, hrun, hended, hEnd⟩ := X2.leaveW q1 (by rw [eT]; exact q2) (v := v) hv hlk
  have hh : (T.setFrames fs).heap = h := eT
  refine ⟨_, _, stp fs hr, hrun, hended, v, locs, rfl, by rw [hh]; exact hQ, ?_, hEnd⟩
  rw [hh]; show CHr Z EL s.vm hS T.vm h; exact C.trans (CHv.at X hZ hEL C.1)
theorem Pos.retN {Q : Option Value → Heap → List Loc → Prop} (P : Pos p l e R s m args below meth c code Z EL wl hS own s.vm T locs cells slots h) (hlk : meth.locks = false) (hret : meth.sig.returnType = none) (hd : decode code pc = .ok (.return_, 1)) (hc : cells ≤ R.cells) (hs : slots ≤ R.slots) (hQ : Q none h locs) : Go p.tables e below (GN s Q R) (T.setTop (mkF m pc ls [])) :=
  P.endN hlk (fun _ => rfl) hc hs hQ fun fs hr => P.1.returnOut P.q.2.1 hret (hb P.q.2.2 hd) hr
theorem Pos.retIN {Q : Option Value → Heap → List Loc → Prop} (P : Pos p l e R s m args below meth c code Z EL wl hS own s.vm T locs cells slots h) (hlk : meth.locks = false) (hret : meth.sig.returnType = some .int) {z : Int32} (hd : decode code pc = .ok (.ireturn, 1)) (hc : cells ≤ R.cells) (hs : slots ≤ R.slots) (hQ : Q (some (.int z)) h locs) : Go p.tables e below (GN s Q R) (T.setTop (mkF m pc ls (.int z :: st))) :=
  P.endN hlk (fun q => by rw [hret] at q; cases q) hc hs hQ fun fs hr => retOut P.1 P.q.2.1 hret rfl (Or.inl ⟨rfl, Or.inl rfl, z, rfl⟩) (hb P.q.2.2 hd) hr
theorem Pos.retVN {Q : Option Value → Heap → List Loc → Prop} (P : Pos p l e R s m args below meth c code Z EL wl hS own s.vm T locs cells slots h) (hlk : meth.locks = false) {t : FieldType} (hret : meth.sig.returnType = some t) (ht : t = .boolean ∨ t = .byte ∨ t = .char ∨ t = .short) {z : Int32} (hd : decode code pc = .ok (.ireturn, 1)) (hc : cells ≤ R.cells) (hs : slots ≤ R.slots) (hQ : Q (some (.int (nar t z))) h locs) : Go p.tables e below (GN s Q R) (T.setTop (mkF m pc ls (.int z :: st))) :=
  P.endN hlk (fun q => by rw [hret] at q; cases q) hc hs hQ fun fs hr => RoadKit.retN P.1 P.q.2.1 hret ht (hb P.q.2.2 hd) hr
theorem Pos.retAN {Q : Option Value → Heap → List Loc → Prop} (P : Pos p l e R s m args below meth c code Z EL wl hS own s.vm T locs cells slots h) (hlk : meth.locks = false) {t : FieldType} (hret : meth.sig.returnType = some t) (ht : t.isReference = true) {v : Value} (hv : v.isRef = true) (hn : narrow t v = v) (hd : decode code pc = .ok (.areturn, 1)) (hc : cells ≤ R.cells) (hs : slots ≤ R.slots) (hQ : Q (some v) h locs) : Go p.tables e below (GN s Q R) (T.setTop (mkF m pc ls (v :: st))) :=
  P.endN hlk (fun q => by rw [hret] at q; cases q) hc hs hQ fun fs hr => retOut P.1 P.q.2.1 hret hn (Or.inr (Or.inr (Or.inr (Or.inr ⟨rfl, ht, hv⟩)))) (hb P.q.2.2 hd) hr
theorem Pos.retDN {Q : Option Value → Heap → List Loc → Prop} (P : Pos p l e R s m args below meth c code Z EL wl hS own s.vm T locs cells slots h) (hlk : meth.locks = false) (hret : meth.sig.returnType = some .double) {z : UInt64} (hd : decode code pc = .ok (.dreturn, 1)) (hc : cells ≤ R.cells) (hs : slots ≤ R.slots) (hQ : Q (some (.double z)) h locs) : Go p.tables e below (GN s Q R) (T.setTop (mkF m pc ls (.double z :: st))) :=
  P.endN hlk (fun q => by rw [hret] at q; cases q) hc hs hQ fun fs hr => retOut P.1 P.q.2.1 hret rfl (Or.inr (Or.inr (Or.inl ⟨rfl, rfl, z, rfl⟩))) (hb P.q.2.2 hd) hr
theorem Pos.retW {Q : Option Value → Heap → List Loc → Prop} (P : Pos p l e R s m args below meth c code Z EL wl hS own vm0 T locs cells slots h) (hEL : EW Z a0 EL) (hlk : meth.locks = false) (hret : meth.sig.returnType = none) (hd : decode code pc = .ok (.return_, 1)) (hc : cells ≤ R.cells) (hs : slots ≤ R.slots) (hQ : Q none h locs) : Go p.tables e below (GW s Z EL hS Q R) (T.setTop (mkF m pc ls [])) :=
  P.endW hEL hlk (fun _ => rfl) hc hs hQ fun fs hr => P.1.returnOut P.q.2.1 hret (hb P.q.2.2 hd) hr
theorem Pos.retIW {Q : Option Value → Heap → List Loc → Prop} (P : Pos p l e R s m args below meth c code Z EL wl hS own vm0 T locs cells slots h) (hEL : EW Z a0 EL) (hlk : meth.locks = false) (hret : meth.sig.returnType = some .int) {z : Int32} (hd : decode code pc = .ok (.ireturn, 1)) (hc : cells ≤ R.cells) (hs : slots ≤ R.slots) (hQ : Q (some (.int z)) h locs) : Go p.tables e below (GW s Z EL hS Q R) (T.setTop (mkF m pc ls (.int z :: st))) :=
  P.endW hEL hlk (fun q => by rw [hret] at q; cases q) hc hs hQ fun fs hr => retOut P.1 P.q.2.1 hret rfl (Or.inl ⟨rfl, Or.inl rfl, z, rfl⟩) (hb P.q.2.2 hd) hr
theorem Pos.retVW {Q : Option Value → Heap → List Loc → Prop} (P : Pos p l e R s m args below meth c code Z EL wl hS own vm0 T locs cells slots h) (hEL : EW Z a0 EL) (hlk : meth.locks = false) {t : FieldType} (hret : meth.sig.returnType = some t) (ht : t = .boolean ∨ t = .byte ∨ t = .char ∨ t = .short) {z : Int32} (hd : decode code pc = .ok (.ireturn, 1)) (hc : cells ≤ R.cells) (hs : slots ≤ R.slots) (hQ : Q (some (.int (nar t z))) h locs) : Go p.tables e below (GW s Z EL hS Q R) (T.setTop (mkF m pc ls (.int z :: st))) :=
  P.endW hEL hlk (fun q => by rw [hret] at q; cases q) hc hs hQ fun fs hr => RoadKit.retN P.1 P.q.2.1 hret ht (hb P.q.2.2 hd) hr
theorem Pos.retAW {Q : Option Value → Heap → List Loc → Prop} (P : Pos p l e R s m args below meth c code Z EL wl hS own vm0 T locs cells slots h) (hEL : EW Z a0 EL) (hlk : meth.locks = false) {t : FieldType} (hret : meth.sig.returnType = some t) (ht : t.isReference = true) {v : Value} (hv : v.isRef = true) (hn : narrow t v = v) (hd : decode code pc = .ok (.areturn, 1)) (hc : cells ≤ R.cells) (hs : slots ≤ R.slots) (hQ : Q (some v) h locs) : Go p.tables e below (GW s Z EL hS Q R) (T.setTop (mkF m pc ls (v :: st))) :=
  P.endW hEL hlk (fun q => by rw [hret] at q; cases q) hc hs hQ fun fs hr => retOut P.1 P.q.2.1 hret hn (Or.inr (Or.inr (Or.inr (Or.inr ⟨rfl, ht, hv⟩)))) (hb P.q.2.2 hd) hr
theorem Pos.retDW {Q : Option Value → Heap → List Loc → Prop} (P : Pos p l e R s m args below meth c code Z EL wl hS own vm0 T locs cells slots h) (hEL : EW Z a0 EL) (hlk : meth.locks = false) (hret : meth.sig.returnType = some .double) {z : UInt64} (hd : decode code pc = .ok (.dreturn, 1)) (hc : cells ≤ R.cells) (hs : slots ≤ R.slots) (hQ : Q (some (.double z)) h locs) : Go p.tables e below (GW s Z EL hS Q R) (T.setTop (mkF m pc ls (.double z :: st))) :=
  P.endW hEL hlk (fun q => by rw [hret] at q; cases q) hc hs hQ fun fs hr => retOut P.1 P.q.2.1 hret rfl (Or.inr (Or.inr (Or.inl ⟨rfl, rfl, z, rfl⟩))) (hb P.q.2.2 hd) hr
end Heapy
section Met
/-- what a stack trace asks of the tables and of the frames beneath -/
abbrev KK : Program → Env → List Frame → State → Array Value → Prop := fun _ _ bl s _ => s.vm.MethodsKnown ∧ s.vm.FramesKnown bl
variable {l : Launch} {Z : State} {EL : List (String × Nat)} {y : MethodName} {bytes : ByteArray} {maxL : Nat} {ret : Option FieldType} {ws : List Jvm.Cond} {rm : Room} {as' : Array Value} {h0 : Heap} {Q : Option Value → Heap → List Loc → Prop} {a0 : Array Value}
/-- a body's contract, narrow (nothing interned) -/
def MetN (l : Launch) (Z : State) (y : MethodName) (bytes : ByteArray) (maxL : Nat) (ret : Option FieldType) (ws : List Jvm.Cond) (rm : Room) (as' : Array Value) (h0 : Heap) (Q : Option Value → Heap → List Loc → Prop) : Prop :=
  MetFree l y (head1 (Jvm.Cond.code y bytes maxL ret :: ws) rm) (fun a U => a = as' ∧ Z.Warmed39 U.vm ∧ U.heap = h0) (fun _ _ _ _ _ => True) (fun _ U o U' => GN U Q rm o U')
/-- .. wide; the places of ss are no booked String's -/
def MetW (l : Launch) (Z : State) (EL : List (String × Nat)) (y : MethodName) (bytes : ByteArray) (maxL : Nat) (ret : Option FieldType) (ws : List Jvm.Cond) (rm : Room) (as' : Array Value) (ss : List Addr) (h0 : Heap) (Q : Option Value → Heap → List Loc → Prop) : Prop :=
  MetFree l y (head1 (Jvm.Cond.code y bytes maxL ret :: ws) rm) (fun a U => a = as' ∧ Z.Warmed39 U.vm ∧ U.heap = h0 ∧ CHv Z EL U.vm h0 ∧ ∀ x ∈ ss, Safe Z EL U.vm h0 x) (fun _ _ _ _ _ => True) (fun _ U o U' => GW U Z EL h0 Q rm o U')
theorem MetN.mk {ls0 : Array Slot} (wl : List Addr) (hp : plainFor y = true) (hent : ∀ m, entryFrame m as' maxL = mkF m 0 ls0 [])
    (body : ∀ p e s m below meth c s₁, c.maxLocals = maxL → meth.sig.returnType = ret → meth.name = y.name → meth.locks = false → Pos p l e rm s m as' below meth c bytes Z [] wl h0 y.cls s.vm s₁ [] 0 0 h0 → Go p.tables e below (GN s Q rm) (s₁.setTop (mkF m 0 ls0 []))) : MetN l Z y bytes maxL ret ws rm as' h0 Q := by
  refine MetFree.of_bodySF hp hisR ?_
  intro p e s m args below meth c s₁ Bd hml hP hK
  obtain ⟨rfl, hZ, hh⟩ := hP
  have hown : s.vm.findClass y.cls = some m.cls := findClass_of_methodNamed Bd.named
  have hnm := (name_of_methodNamed Bd.named Bd.method).1
  have e0 : s₁.heap = h0 := by rw [← hh, Bd.state]; rfl
  have X0 : Stand p l e rm s m args below meth c s₁ [] 0 0 := Stand.of_body Bd
  have hC : CHv Z [] s.vm h0 := fun _ q => nomatch q
  rw [hent]
  exact body p e s m below meth c s₁ hml Bd.returns hnm Bd.notSynchronized ⟨X0, e0, ⟨0, (State.WarmedH.refl s).since _, Nat.zero_le _⟩, hZ, hown, Frw.nil, hh, CHr.refl hC, Bd.exec, Bd.bytes⟩
theorem MetW.mk {ls0 : Array Slot} {ss : List Addr} (wl : List Addr) (hp : plainFor y = true) (hent : ∀ m, entryFrame m as' maxL = mkF m 0 ls0 [])
    (body : ∀ p e s m below meth c s₁, c.maxLocals = maxL → meth.sig.returnType = ret → meth.name = y.name → meth.locks = false → (∀ x ∈ ss, Safe Z EL s.vm h0 x) → Pos p l e rm s m as' below meth c bytes Z EL wl h0 y.cls s.vm s₁ [] 0 0 h0 → Go p.tables e below (GW s Z EL h0 Q rm) (s₁.setTop (mkF m 0 ls0 []))) : MetW l Z EL y bytes maxL ret ws rm as' ss h0 Q := by
  refine MetFree.of_bodySF hp hisR ?_
  intro p e s m args below meth c s₁ Bd hml hP hK
  obtain ⟨rfl, hZ, hh, hC, hss⟩ := hP
  have hown : s.vm.findClass y.cls = some m.cls := findClass_of_methodNamed Bd.named
  have hnm := (name_of_methodNamed Bd.named Bd.method).1
  have e0 : s₁.heap = h0 := by rw [← hh, Bd.state]; rfl
  have X0 : Stand p l e rm s m args below meth c s₁ [] 0 0 := Stand.of_body Bd
  rw [hent]
  exact body p e s m below meth c s₁ hml Bd.returns hnm Bd.notSynchronized hss ⟨X0, e0, ⟨0, (State.WarmedH.refl s).since _, Nat.zero_le _⟩, hZ, hown, Frw.nil, hh, CHr.refl hC, Bd.exec, Bd.bytes⟩
def MetNK (l : Launch) (Z : State) (y : MethodName) (bytes : ByteArray) (maxL : Nat) (ret : Option FieldType) (ws : List Jvm.Cond) (rm : Room) (as' : Array Value) (h0 : Heap) (Q : Option Value → Heap → List Loc → Prop) : Prop :=
  MetFree l y (head1 (Jvm.Cond.code y bytes maxL ret :: ws) rm) (fun a U => a = as' ∧ Z.Warmed39 U.vm ∧ U.heap = h0) KK (fun _ U o U' => GN U Q rm o U')
def MetWK (l : Launch) (Z : State) (EL : List (String × Nat)) (y : MethodName) (bytes : ByteArray) (maxL : Nat) (ret : Option FieldType) (ws : List Jvm.Cond) (rm : Room) (as' : Array Value) (ss : List Addr) (h0 : Heap) (Q : Option Value → Heap → List Loc → Prop) : Prop :=
  MetFree l y (head1 (Jvm.Cond.code y bytes maxL ret :: ws) rm) (fun a U => a = as' ∧ Z.Warmed39 U.vm ∧ U.heap = h0 ∧ CHv Z EL U.vm h0 ∧ ∀ x ∈ ss, Safe Z EL U.vm h0 x) KK (fun _ U o U' => GW U Z EL h0 Q rm o U')
theorem MetNK.mk {ls0 : Array Slot} (wl : List Addr) (hp : plainFor y = true) (hent : ∀ m, entryFrame m as' maxL = mkF m 0 ls0 [])
    (body : ∀ p e s m below meth c s₁, c.maxLocals = maxL → meth.sig.returnType = ret → meth.name = y.name → meth.locks = false → s.vm.MethodsKnown → s.vm.FramesKnown below → Pos p l e rm s m as' below meth c bytes Z [] wl h0 y.cls s.vm s₁ [] 0 0 h0 → Go p.tables e below (GN s Q rm) (s₁.setTop (mkF m 0 ls0 []))) : MetNK l Z y bytes maxL ret ws rm as' h0 Q := by
  refine MetFree.of_bodySF hp hisR ?_
  intro p e s m args below meth c s₁ Bd hml hP hK
  obtain ⟨rfl, hZ, hh⟩ := hP
  have hown : s.vm.findClass y.cls = some m.cls := findClass_of_methodNamed Bd.named
  have hnm := (name_of_methodNamed Bd.named Bd.method).1
  have e0 : s₁.heap = h0 := by rw [← hh, Bd.state]; rfl
  have X0 : Stand p l e rm s m args below meth c s₁ [] 0 0 := Stand.of_body Bd
  have hC : CHv Z [] s.vm h0 := fun _ q => nomatch q
  rw [hent]
  exact body p e s m below meth c s₁ hml Bd.returns hnm Bd.notSynchronized hK.1 hK.2 ⟨X0, e0, ⟨0, (State.WarmedH.refl s).since _, Nat.zero_le _⟩, hZ, hown, Frw.nil, hh, CHr.refl hC, Bd.exec, Bd.bytes⟩
theorem MetWK.mk {ls0 : Array Slot} {ss : List Addr} (wl : List Addr) (hp : plainFor y = true) (hent : ∀ m, entryFrame m as' maxL = mkF m 0 ls0 [])
    (body : ∀ p e s m below meth c s₁, c.maxLocals = maxL → meth.sig.returnType = ret → meth.name = y.name → meth.locks = false → s.vm.MethodsKnown → s.vm.FramesKnown below → (∀ x ∈ ss, Safe Z EL s.vm h0 x) → Pos p l e rm s m as' below meth c bytes Z EL wl h0 y.cls s.vm s₁ [] 0 0 h0 → Go p.tables e below (GW s Z EL h0 Q rm) (s₁.setTop (mkF m 0 ls0 []))) : MetWK l Z EL y bytes maxL ret ws rm as' ss h0 Q := by
  refine MetFree.of_bodySF hp hisR ?_
  intro p e s m args below meth c s₁ Bd hml hP hK
  obtain ⟨rfl, hZ, hh, hC, hss⟩ := hP
  have hown : s.vm.findClass y.cls = some m.cls := findClass_of_methodNamed Bd.named
  have hnm := (name_of_methodNamed Bd.named Bd.method).1
  have e0 : s₁.heap = h0 := by rw [← hh, Bd.state]; rfl
  have X0 : Stand p l e rm s m args below meth c s₁ [] 0 0 := Stand.of_body Bd
  rw [hent]
  exact body p e s m below meth c s₁ hml Bd.returns hnm Bd.notSynchronized hK.1 hK.2 hss ⟨X0, e0, ⟨0, (State.WarmedH.refl s).since _, Nat.zero_le _⟩, hZ, hown, Frw.nil, hh, CHr.refl hC, Bd.exec, Bd.bytes⟩
variable {p : Program} {e : Env} {R : Room} {s : State} {args : Array Value} {below : List Frame} {vm0 : Vm} {len W : Nat} {m : MethodId} {meth : Method} {c : Code} {code : ByteArray} {wl : List Addr} {hS h : Heap} {own : String} {T : State} {locs : List Loc} {cells slots : Nat}
/-- a narrow contract pays a call -/
theorem MetN.pay (hM : MetN l Z y bytes maxL ret [] rm as' h Q) (P : Pos p l e R s m args below meth c code Z EL wl hS own vm0 T locs cells slots h) (wc : (Jvm.Cond.code y bytes maxL ret).before a0 Z = true) (wz : (Jvm.Cond.initialized y.cls).before a0 Z = true) (hf : rm.frames + 1 ≤ R.frames) (hl : W + (maxL + 11) + rm.locals ≤ R.locals) :
    Back l R p e below (s.setVm vm0) args y len W (fun A a => a = as' ∧ A.U.heap = h ∧ A.cells + rm.cells ≤ R.cells ∧ A.slots + rm.slots ≤ R.slots) (fun A _ v B => ∃ L, Q v B.U.heap L ∧ B.locs = A.locs ++ L ∧ B.cells = A.cells + rm.cells ∧ B.slots = A.slots + rm.slots) :=
  backOf hM P.hz wc wz hf hl
theorem MetNK.pay (hM : MetNK l Z y bytes maxL ret [] rm as' h Q) (P : Pos p l e R s m args below meth c code Z EL wl hS own vm0 T locs cells slots h) (hTK : s.vm.MethodsKnown) (hB : s.vm.FramesKnown below) (wc : (Jvm.Cond.code y bytes maxL ret).before a0 Z = true) (wz : (Jvm.Cond.initialized y.cls).before a0 Z = true) (hf : rm.frames + 1 ≤ R.frames) (hl : W + (maxL + 11) + rm.locals ≤ R.locals) :
    Back l R p e below (s.setVm vm0) args y len W (fun A a => a = as' ∧ A.U.heap = h ∧ A.cells + rm.cells ≤ R.cells ∧ A.slots + rm.slots ≤ R.slots) (fun A _ v B => ∃ L, Q v B.U.heap L ∧ B.locs = A.locs ++ L ∧ B.cells = A.cells + rm.cells ∧ B.slots = A.slots + rm.slots) :=
  backOfKL hM P.hz wc wz hf hl (Vm.MethodsKnown.alikeC P.alS hTK) (Vm.FramesKnown.alikeC P.alS hB)
/-- a wide one -/
theorem MetW.pay {ss : List Addr} (hM : MetW l Z EL y bytes maxL ret [] rm as' ss h Q) (P : Pos p l e R s m args below meth c code Z EL wl hS own vm0 T locs cells slots h) (hEL : EW Z a0 EL) (hss : ∀ x ∈ ss, x < h.size ∧ Safe Z EL vm0 h x) (wc : (Jvm.Cond.code y bytes maxL ret).before a0 Z = true) (wz : (Jvm.Cond.initialized y.cls).before a0 Z = true) (hf : rm.frames + 1 ≤ R.frames) (hl : W + (maxL + 11) + rm.locals ≤ R.locals) :
    BackS l R p e below (s.setVm vm0) args y len W (fun A a => a = as' ∧ A.U.heap = h ∧ A.cells + rm.cells ≤ R.cells ∧ A.slots + rm.slots ≤ R.slots) (fun A _ v B => ∃ L, Q v B.U.heap L ∧ B.locs = A.locs ++ L ∧ B.cells = A.cells + rm.cells ∧ B.slots = A.slots + rm.slots ∧ CHr Z EL vm0 h B.U.vm B.U.heap) :=
  BackS.of_freeW (bytes := bytes) (maxL := maxL) (ret := ret) (E := fun _ first o t L k n => k = rm.cells ∧ n = rm.slots ∧ (∃ v, o = .returned v ∧ Q v t.heap L) ∧ CHr Z EL first.vm h t.vm t.heap) hM hf hl
    (fun m meth c A a Y hp => have hU : Z.Warmed39 A.U.vm := wtrans (s := s.setVm vm0) P.hz Y.warmed
      ⟨by show (Jvm.Cond.and _ .tt).before a A.U = true; rw [Jvm.Cond.before_and, mv hU wc]; rfl, mv hU wc, mv hU wz, hp.2.2.1, hp.2.2.2⟩)
    (fun m meth c A a g mk Y hp => ⟨hp.1, wtrans (s := s.setVm vm0) P.hz Y.warmed, hp.2.1, (CHv.at Y P.hz hEL P.chv).1, fun x hx => (CHv.at Y P.hz hEL P.chv).safe (hss x hx).1 (hss x hx).2⟩) (fun _ _ _ _ _ _ _ _ _ => trivial)
    (fun _ _ _ _ ⟨v, L, h1, h2, h3, h4⟩ => ⟨L, _, _, h4, rfl, rfl, ⟨v, h1, h2⟩, h3⟩)
    (fun m meth c A a g mk v t L k n Y hp _ _ ⟨e1, e2, ⟨v', e3, e4⟩, e5⟩ => by
      cases e3; subst e1 e2
      exact ⟨L, e4, rfl, rfl, rfl, (CHv.at Y P.hz hEL P.chv).trans e5⟩)
end Met
/-- what a body that touches nothing says -/
def Pure (v : Option Value) (h0 : Heap) (u : Option Value) (h : Heap) (L : List Loc) : Prop := u = v ∧ L = [] ∧ h0 = h
theorem Pure.ok {v : Option Value} {h0 : Heap} {Z : State} {EL : List (String × Nat)} {vm0 : Vm} {wl : List Addr} {n : Nat} (H : CHv Z EL vm0 h0) : ∀ u h L, Pure v h0 u h L → Frw wl n L ∧ CHr Z EL vm0 h0 vm0 h := fun u h L q => by
  obtain ⟨-, rfl, rfl⟩ := q; exact ⟨Frw.nil, CHr.refl H⟩
theorem ns_root {Z : State} {a0 : Array Value} {O K : String} {n : Nat} (w : (Jvm.Cond.noSuperclass O).before a0 Z = true) (wk : (Jvm.Cond.instantiable K n).before a0 Z = true) (hn : O ≠ K) : NS Z O K := by
  obtain ⟨c, k, h1, h2, h3, -, -⟩ := Cond.noSuperclass_spec w
  obtain ⟨t, kt, g1, -⟩ := Cond.instantiable_spec wk
  have ne := ids_ne h1 g1 hn
  refine ⟨c, t, h1, g1, fun fuel => ?_⟩
  cases fuel with
  | zero => rfl
  | succ f => simp [Vm.isSubclassAux, ne, h2, h3]
theorem ns_no {Z : State} {a0 : Array Value} {C S K : String} {n : Nat} (w : (Jvm.Cond.superclass C S).before a0 Z = true) (wk : (Jvm.Cond.instantiable K n).before a0 Z = true) (N : NS Z C K) (hn : C ≠ K) : ∃ c t, Z.vm.findClass C = some c ∧ Z.vm.findClass K = some t ∧ Z.vm.assignable c t = false := by
  obtain ⟨c, t, h0, g0, n3⟩ := N
  obtain ⟨p, k, kp, h1, h2, h3, h4, h5, -, h7⟩ := Cond.superclass_spec h0 w
  obtain ⟨t', k', g1, g2, g5, g6, -⟩ := Cond.instantiable_spec wk
  cases g0.symm.trans g1
  have g7 : k'.isInterface = false := by cases q : k'.isInterface <;> simp [q] at g6 ⊢
  have ne := ids_ne h0 g0 hn
  refine ⟨c, t, h0, g0, ?_⟩
  show Z.vm.assignableAux (255 + 1) c t = false
  simp [Vm.assignableAux, ne, h2, g2, h5, g5, g7, Vm.isSubclass, n3]
theorem Ext.keepNew {h0 h h' : Heap} {wl : List Addr} (E : Ext h0 h) (K : Keep h h' wl) (q : ∀ x ∈ wl, h0.size ≤ x) : Ext h0 h' := ⟨Nat.le_trans E.1 K.1, fun a c r => K.2.1 a c (E.2 a c r) fun z => absurd (Array.getElem?_eq_some_iff.mp r).1 (Nat.not_lt.mpr (q a z))⟩
theorem Ext.trans {h0 h h' : Heap} (E : Ext h0 h) (E' : Ext h h') : Ext h0 h' := ⟨Nat.le_trans E.1 E'.1, fun a c r => E'.2 a c (E.2 a c r)⟩
theorem Ext.refl (h : Heap) : Ext h h := ⟨Nat.le_refl _, fun _ _ r => r⟩
theorem Ext.wrNew {h0 h h' : Heap} {a : Addr} {sl : Nat} {v : Value} (E : Ext h0 h) (Wq : Wr h h' a sl v) (q : h0.size ≤ a) : Ext h0 h' := Ext.keepNew E (Keep.of_wr Wq) (allS q all0)
theorem Ext.toKeep {h h' : Heap} (E : Ext h h') (wl : List Addr) : Keep h h' wl := (Keep.refl h wl).ext E
end W
end Jvm.Pilot.@@N@@
/- laws to paste: pair_says, shr0, shr1, chr8_lo8, lo8_mask, narrow_ch, fits_lo8 (cut by pick.py; bodies as the Statement names them) -/
namespace Jvm.Pilot.@@N@@
namespace StrChars
open Jvm Sem ClassFile Op Lib Jvm.Stand Jvm.Free.XT Jvm.Free.ALB Jvm.Free.JM Jvm.Free
open Jvm.Lib.Cold (StaticIs)
/-- the byte that i2b leaves of a char -/
def lo8 (x : Int32) : Int32 := x.toInt8.toInt32
theorem fits_lo8 (y : Int32) : fits .byte (.int (lo8 y)) = true := by
  have h1 := y.toInt8.le_toInt
  have h2 := y.toInt8.toInt_lt
  simp only [lo8, fits, Bool.and_eq_true, decide_eq_true_eq, Int32.le_iff_toInt_le, Int8.toInt_toInt32, show (-128 : Int32).toInt = -128 from by decide, show (127 : Int32).toInt = 127 from by decide]
  omega
/-- the byte, read back as charAt reads it, is the char -/
theorem lo8_mask {x : Int32} (h0 : ¬ x < 0) (h1 : ¬ 255 < x) : lo8 x &&& 255 = x := by
  have t : ∀ k : Fin 256, lo8 (Int32.ofNat k.val) &&& 255 = Int32.ofNat k.val := by decide +kernel
  rw [Int32.lt_iff_toInt_lt] at h0 h1
  have e0 : (0 : Int32).toInt = 0 := rfl
  have e1 : (255 : Int32).toInt = 255 := rfl
  obtain ⟨k, hk⟩ : ∃ k : Nat, x.toInt = k := ⟨x.toInt.toNat, by omega⟩
  have hx : x = Int32.ofNat k := Int32.toInt_inj.mp (by rw [hk, Int32.toInt_ofNat_small (by omega)])
  rw [hx]
  exact t ⟨k, by omega⟩
end StrChars
namespace StrChars
open Jvm Sem ClassFile Op Lib Jvm.Stand Jvm.Free.XT Jvm.Free.ALB Jvm.Free.JM Jvm.Free
open Jvm.Lib.Cold (StaticIs)
def hi8 (x : Int32) : Int32 := lo8 (x >>> ((8 : Int32) &&& 31))
/-- what StringUTF16.getChar makes of two bytes -/
def pairCh (u v : Int32) : Int32 := (((u &&& 255) <<< ((0 : Int32) &&& 31)) ||| ((v &&& 255) <<< ((8 : Int32) &&& 31))).toUInt32.toUInt16.toUInt32.toInt32
theorem shr0 (c : Int32) : c >>> ((0 : Int32) &&& 31) = c := by
  have e : ((0 : Int32) &&& 31) = 0 := by decide
  rw [e]
  apply Int32.toBitVec_inj.mp
  rw [Int32.toBitVec_shiftRight]
  have e1 : ((0 : Int32).toBitVec.smod 32) = 0#32 := by decide
  rw [e1, BitVec.sshiftRight_eq']
  exact BitVec.sshiftRight_zero
theorem lo8_and (x : Int32) : (lo8 x &&& 255).toBitVec.toNat = x.toBitVec.toNat % 256 := by
  have h : (lo8 x).toBitVec = (x.toBitVec.signExtend 8).signExtend 32 := by rw [lo8, Int8.toBitVec_toInt32, Int32.toBitVec_toInt8]
  rw [Int32.toBitVec_and, BitVec.toNat_and, h]
  have e : ((x.toBitVec.signExtend 8).signExtend 32).toNat % 256 = x.toBitVec.toNat % 256 := by
    rw [BitVec.toNat_signExtend]
    have hlt := x.toBitVec.isLt
    simp only [BitVec.toNat_setWidth, BitVec.toNat_signExtend]
    split <;> split <;> omega
  rw [← e]
  exact Nat.and_two_pow_sub_one_eq_mod _ 8
theorem pair_says {c : Int32} (h0 : ¬ c < 0) (h1 : ¬ 65535 < c) : pairCh (lo8 c) (hi8 c) = c := by
  rw [Int32.lt_iff_toInt_lt] at h0 h1
  have e0 : (0 : Int32).toInt = 0 := rfl
  have e1 : (65535 : Int32).toInt = 65535 := rfl
  have hc : c.toInt = c.toBitVec.toNat := by
    have := c.toBitVec.isLt
    have e : c.toInt = c.toBitVec.toInt := rfl
    rw [e] at h0 h1
    rw [e]
    rw [BitVec.toInt_eq_toNat_cond] at h0 h1 ⊢
    split at h0 <;> split <;> omega
  have hn : c.toBitVec.toNat < 65536 := by omega
  have a1 := lo8_and c
  have a2 : (hi8 c &&& 255).toBitVec.toNat = c.toBitVec.toNat / 256 := by
    rw [hi8, lo8_and]
    have e : ((8 : Int32) &&& 31) = 8 := by decide
    rw [e, Int32.toBitVec_shiftRight]
    have e2 : ((8 : Int32).toBitVec.smod 32) = 8#32 := by decide
    rw [e2, BitVec.sshiftRight_eq', BitVec.toNat_sshiftRight_of_msb_false (by rw [BitVec.msb_eq_false_iff_two_mul_lt]; omega)]
    show c.toBitVec.toNat >>> 8 % 256 = _
    rw [Nat.shiftRight_eq_div_pow]
    omega
  unfold pairCh
  apply Int32.toBitVec_inj.mp
  apply BitVec.eq_of_toNat_eq
  have f0 : ((0 : Int32) &&& 31) = 0 := by decide
  have f8 : ((8 : Int32) &&& 31) = 8 := by decide
  rw [f0, f8]
  have g : (((lo8 c &&& 255) <<< (0 : Int32)) ||| ((hi8 c &&& 255) <<< (8 : Int32))).toBitVec.toNat = c.toBitVec.toNat := by
    rw [Int32.toBitVec_or, Int32.toBitVec_shiftLeft, Int32.toBitVec_shiftLeft]
    have s0 : ((0 : Int32).toBitVec.smod 32) = 0#32 := by decide
    have s8 : ((8 : Int32).toBitVec.smod 32) = 8#32 := by decide
    rw [s0, s8, BitVec.toNat_or]
    simp only [BitVec.shiftLeft_eq', BitVec.toNat_shiftLeft, a1, a2]
    show (c.toBitVec.toNat % 256) <<< 0 % 2 ^ 32 ||| (c.toBitVec.toNat / 256) <<< 8 % 2 ^ 32 = _
    rw [Nat.shiftLeft_zero, Nat.mod_eq_of_lt (show c.toBitVec.toNat % 256 < 2 ^ 32 by omega), Nat.mod_eq_of_lt (show (c.toBitVec.toNat / 256) <<< 8 < 2 ^ 32 by rw [Nat.shiftLeft_eq]; omega), Nat.or_comm, ← Nat.shiftLeft_add_eq_or_of_lt (by omega), Nat.shiftLeft_eq]
    omega
  show BitVec.toNat (((((lo8 c &&& 255) <<< (0 : Int32)) ||| ((hi8 c &&& 255) <<< (8 : Int32))).toBitVec.setWidth 16).setWidth 32) = _
  rw [BitVec.toNat_setWidth, BitVec.toNat_setWidth, g]
  omega
end StrChars
namespace StrChars
open Jvm Sem ClassFile Op Lib Jvm.Stand Jvm.Free.XT Jvm.Free.ALB Jvm.Free.JM Jvm.Free
open Jvm.Lib.Cold (StaticIs)
theorem shr1 {n : Nat} (h : 2 * n < 2 ^ 31) : Int32.ofNat (2 * n) >>> ((1 : Int32) &&& 31) = Int32.ofNat n := by
  have e : ((1 : Int32) &&& 31) = 1 := by decide
  rw [e]
  apply Int32.toBitVec_inj.mp
  rw [Int32.toBitVec_shiftRight]
  have e1 : ((1 : Int32).toBitVec.smod 32) = 1#32 := by decide
  have hm : (BitVec.ofNat 32 (2 * n)).toNat = 2 * n := by rw [BitVec.toNat_ofNat, Nat.mod_eq_of_lt (by omega)]
  rw [e1, BitVec.sshiftRight_eq']
  apply BitVec.eq_of_toNat_eq
  show ((BitVec.ofNat 32 (2 * n)).sshiftRight 1).toNat = (BitVec.ofNat 32 n).toNat
  rw [BitVec.toNat_sshiftRight_of_msb_false (by rw [BitVec.msb_eq_false_iff_two_mul_lt, hm]; omega), hm, BitVec.toNat_ofNat, Nat.shiftRight_eq_div_pow]
  omega
/-- charAt's cast of a byte read back -/
def chr8 (u : Int32) : Int32 := (u &&& 255).toUInt32.toUInt16.toUInt32.toInt32
theorem chr8_lo8 {c : Int32} (h0 : ¬ c < 0) (h1 : ¬ 255 < c) : chr8 (lo8 c) = c := by
  have t : ∀ k : Fin 256, (Int32.ofNat k.val).toUInt32.toUInt16.toUInt32.toInt32 = Int32.ofNat k.val := by decide +kernel
  unfold chr8
  rw [lo8_mask h0 h1]
  rw [Int32.lt_iff_toInt_lt] at h0 h1
  have e0 : (0 : Int32).toInt = 0 := rfl
  have e1 : (255 : Int32).toInt = 255 := rfl
  obtain ⟨k, hk⟩ : ∃ k : Nat, c.toInt = k := ⟨c.toInt.toNat, by omega⟩
  have hx : c = Int32.ofNat k := Int32.toInt_inj.mp (by rw [hk, Int32.toInt_ofNat_small (by omega)])
  rw [hx]
  exact t ⟨k, by omega⟩
theorem narrow_ch {c : Int32} (h0 : ¬ c < 0) (h1 : ¬ 65535 < c) : narrow .char (.int c) = .int c := by
  have q : narrow .char (.int (pairCh (lo8 c) (hi8 c))) = .int (pairCh (lo8 c) (hi8 c)) := narrow_c _
  rwa [pair_says h0 h1] at q
end StrChars
end Jvm.Pilot.@@N@@
namespace Jvm.Pilot.@@N@@
namespace W
open Jvm Jvm.ClassFile Sem Op Lib Jvm.Free Jvm.Stand Jvm.LawKit Jvm.RoadKit Bundle
theorem i32 {n : Nat} (h : n < 2147483648) : (Int32.ofNat n).toInt = n := Int32.toInt_ofNat_of_lt h
theorem n32 {n : Nat} (h : n < 2147483648) : (Int32.ofNat n).toNatClampNeg = n := by rw [Int32.toNatClampNeg, i32 h]; rfl
theorem nn32 {n : Nat} (h : n < 2147483648) : ¬ Int32.ofNat n < 0 := by
  rw [Int32.lt_iff_toInt_lt, i32 h]; have e : (0 : Int32).toInt = 0 := rfl; omega
theorem lt32 {i n : Nat} (hi : i < 2147483648) (hn : n < 2147483648) : Int32.ofNat i < Int32.ofNat n ↔ i < n := by
  rw [Int32.lt_iff_toInt_lt, i32 hi, i32 hn]; omega
theorem eq32 {i n : Nat} (hi : i < 2147483648) (hn : n < 2147483648) : Int32.ofNat i = Int32.ofNat n ↔ i = n := by
  rw [← Int32.toInt_inj, i32 hi, i32 hn]; omega
theorem succ32 (i : Nat) : Int32.ofNat i + Int32.ofInt 1 = Int32.ofNat (i + 1) := by
  rw [Int32.ofNat_add]; rfl
theorem shl1 (n : Nat) : Int32.ofNat n <<< ((1 : Int32) &&& 31) = Int32.ofNat (2 * n) := by
  have e : ((1 : Int32) &&& 31) = 1 := by decide
  rw [e]
  apply Int32.toBitVec_inj.mp
  rw [Int32.toBitVec_shiftLeft]
  have e1 : ((1 : Int32).toBitVec.smod 32) = 1#32 := by decide
  rw [e1, BitVec.shiftLeft_eq']
  apply BitVec.eq_of_toNat_eq
  show ((BitVec.ofNat 32 n) <<< 1).toNat = (BitVec.ofNat 32 (2 * n)).toNat
  rw [BitVec.toNat_shiftLeft, BitVec.toNat_ofNat, BitVec.toNat_ofNat, Nat.shiftLeft_eq]
  omega
theorem nar8 (x : Int32) : nar .byte (StrChars.lo8 x) = StrChars.lo8 x := by
  show (x.toInt8.toInt32).toInt8.toInt32 = x.toInt8.toInt32
  rw [Int8.toInt8_toInt32]
theorem stI {ls ls2 : Array Slot} {k : Nat} {v : Int32} {o : Slot} (hold : ls[k]? = some o) (ho : One o) (h2 : ls.setIfInBounds k (.val (.int v)) = ls2) : storeLocals ls k (.int v) = some ls2 := by
  rw [← h2]; exact Jvm.Free.XS.store1 hold ho rfl
theorem safe0 {Z : State} {vm : Vm} {h : Heap} {x : Addr} : Safe Z [] vm h x := fun B => by obtain ⟨q, hq, -⟩ := B; cases hq
def upd (f : Nat → Int32) (i : Nat) (v : Int32) : Nat → Int32 := fun j => if j = i then v else f j
/-- the array a holds the n ints f 0 .. f (n - 1) -/
def Arg (Z : State) (h : Heap) (a : Addr) (k : ClassId) (ty : FieldType) (n : Nat) (f : Nat → Int32) : Prop := ∃ vs : List Value, Arv Z h a k ty (Int32.ofNat n) vs (.int 0) ∧ vs.length = n ∧ n < 2147483648 ∧ ∀ i, i < n → vs.getD i (.int 0) = .int (f i)
section A
variable {Z : State} {h h' : Heap} {a b : Addr} {k : ClassId} {ty : FieldType} {n : Nat} {f g : Nat → Int32}
theorem Arg.ext (A : Arg Z h a k ty n f) (E : Ext h h') : Arg Z h' a k ty n f := by obtain ⟨vs, q, r⟩ := A; exact ⟨vs, q.ext E, r⟩
theorem Arg.keep {ws : List Addr} (A : Arg Z h a k ty n f) (K : Keep h h' ws) (q : a ∉ ws) : Arg Z h' a k ty n f := by obtain ⟨vs, r, t⟩ := A; exact ⟨vs, r.keep K q, t⟩
theorem Arg.other {sl : Nat} {v : Value} (A : Arg Z h b k ty n f) (W : Wr h h' a sl v) (q : b ≠ a) : Arg Z h' b k ty n f := by obtain ⟨vs, r, t⟩ := A; exact ⟨vs, r.other W q, t⟩
theorem Arg.lt (A : Arg Z h a k ty n f) : a < h.size := by obtain ⟨vs, r, t⟩ := A; exact r.lt
theorem Arg.arv (A : Arg Z h a k ty n f) : ∃ vs, Arv Z h a k ty (Int32.ofNat n) vs (.int 0) := by obtain ⟨vs, r, t⟩ := A; exact ⟨vs, r⟩
theorem Arg.small (A : Arg Z h a k ty n f) : n < 2147483648 := by obtain ⟨vs, r, t, u, -⟩ := A; exact u
theorem Arg.congr (A : Arg Z h a k ty n f) (q : ∀ i, i < n → f i = g i) : Arg Z h a k ty n g := by obtain ⟨vs, r, t, u, w⟩ := A; exact ⟨vs, r, t, u, fun i hi => by rw [w i hi, q i hi]⟩
theorem Arg.new (hn : n < 2147483648) (V : Arv Z h a k ty (Int32.ofNat n) (List.replicate (Int32.ofNat n).toNatClampNeg (.int 0)) (.int 0)) : Arg Z h a k ty n (fun _ => 0) := ⟨_, V, by rw [List.length_replicate, n32 hn], hn, fun i hi => by
  rw [n32 hn]; simp [List.getD_eq_getElem?_getD, hi]⟩
end A
section P
variable {p : Program} {l : Launch} {e : Env} {R : Room} {s : State} {m : MethodId} {args : Array Value} {below : List Frame} {meth : Method} {c : Code} {code : ByteArray} {Z : State} {EL : List (String × Nat)} {wl : List Addr} {hS : Heap} {own : String} {vm0 : Vm} {T : State} {locs : List Loc} {cells slots : Nat} {h : Heap} {a0 : Array Value} {G : Outcome → State → Prop} {pc pc1 pc2 : Nat} {ls ls2 : Array Slot} {st : List Value}
theorem Pos.ldCg (P : Pos p l e R s m args below meth c code Z EL wl hS own vm0 T locs cells slots h) {a : Addr} {k : ClassId} {n i : Nat} {f : Nat → Int32} (V : Arg Z h a k .char n f) (hi : i < n) (hd : decode code pc = .ok (.caload, 1)) (hp : pc + 1 = pc1) (K : Go p.tables e below G (T.setTop (mkF m pc1 ls (.int (f i) :: st)))) : Go p.tables e below G (T.setTop (mkF m pc ls (.int (Int32.ofNat i) :: .ref a :: st))) := by
  obtain ⟨vs, r, t, u, w⟩ := V
  exact P.ldC r (nn32 (by omega)) (by rw [n32 (by omega), n32 u]; exact hi) (by rw [n32 (by omega)]; exact w i hi) hd hp K
theorem Pos.ldBg (P : Pos p l e R s m args below meth c code Z EL wl hS own vm0 T locs cells slots h) {a : Addr} {k : ClassId} {n i : Nat} {f : Nat → Int32} (V : Arg Z h a k .byte n f) (hi : i < n) (hd : decode code pc = .ok (.baload, 1)) (hp : pc + 1 = pc1) (K : Go p.tables e below G (T.setTop (mkF m pc1 ls (.int (f i) :: st)))) : Go p.tables e below G (T.setTop (mkF m pc ls (.int (Int32.ofNat i) :: .ref a :: st))) := by
  obtain ⟨vs, r, t, u, w⟩ := V
  exact P.ldB r (nn32 (by omega)) (by rw [n32 (by omega), n32 u]; exact hi) (by rw [n32 (by omega)]; exact w i hi) hd hp K
theorem Arg.set_ {a : Addr} {k : ClassId} {ty : FieldType} {n i : Nat} {f : Nat → Int32} {vs : List Value} {v : Int32} (V : Arv Z h a k ty (Int32.ofNat n) (vs.set i (.int v)) (.int 0)) (t : vs.length = n) (u : n < 2147483648) (w : ∀ i, i < n → vs.getD i (.int 0) = .int (f i)) : Arg Z h a k ty n (upd f i v) := by
  refine ⟨_, V, by rw [List.length_set]; exact t, u, fun j hj => ?_⟩
  simp only [List.getD_eq_getElem?_getD, List.getElem?_set, upd]
  by_cases q : i = j
  · subst q; simp [t, hj]
  · rw [if_neg q, if_neg (Ne.symm q), ← List.getD_eq_getElem?_getD]; exact w j hj
theorem Pos.stBg (P : Pos p l e R s m args below meth c code Z EL wl hS own vm0 T locs cells slots h) {a : Addr} {k : ClassId} {n i : Nat} {f : Nat → Int32} {x : Int32} (V : Arg Z h a k .byte n f) (hi : i < n) (ga : a ∈ wl ∨ hS.size ≤ a) (S : Safe Z EL vm0 h a) (hd : decode code pc = .ok (.bastore, 1)) (hp : pc + 1 = pc1)
    (K : ∀ (T' : State) (h' : Heap), Pos p l e R s m args below meth c code Z EL wl hS own vm0 T' (locs ++ [⟨a, (Int32.ofNat i).toNatClampNeg⟩]) cells slots h' → Wr h h' a (Int32.ofNat i).toNatClampNeg (.int (nar .byte x)) → Arg Z h' a k .byte n (upd f i (nar .byte x)) → Go p.tables e below G (T'.setTop (mkF m pc1 ls st))) : Go p.tables e below G (T.setTop (mkF m pc ls (.int x :: .int (Int32.ofNat i) :: .ref a :: st))) := by
  obtain ⟨vs, r, t, u, w⟩ := V
  exact P.stB r (nn32 (by omega)) (n32 (by omega)) (by omega) (by rw [n32 u, t]) ga S hd hp (fun T' h' P' W' V' => K T' h' P' W' (Arg.set_ V' t u w))
theorem Pos.lenG (P : Pos p l e R s m args below meth c code Z EL wl hS own vm0 T locs cells slots h) {a : Addr} {k : ClassId} {ty : FieldType} {n : Nat} {f : Nat → Int32} (V : Arg Z h a k ty n f) (hd : decode code pc = .ok (.arraylength, 1)) (hp : pc + 1 = pc1) (K : Go p.tables e below G (T.setTop (mkF m pc1 ls (.int (Int32.ofNat n) :: st)))) : Go p.tables e below G (T.setTop (mkF m pc ls (.ref a :: st))) := by
  obtain ⟨vs, r⟩ := V.arv; exact P.len r hd hp K
end P
/-- how n chars f lie in N bytes g, by the coder cd -/
def Cdd (n : Nat) (f : Nat → Int32) (cd : Int32) (N : Nat) (g : Nat → Int32) : Prop := (cd = 0 ∧ N = n ∧ ∀ i, i < n → g i = StrChars.lo8 (f i) ∧ ¬ (255 : Int32) < f i) ∨ (cd = 1 ∧ N = 2 * n ∧ (∀ i, i < n → g (2 * i) = StrChars.lo8 (f i) ∧ g (2 * i + 1) = StrChars.hi8 (f i)) ∧ ∃ i, i < n ∧ (255 : Int32) < f i)
/-- x is a String of the n chars f -/
def UStr (Z : State) (h : Heap) (x : Addr) (n : Nat) (f : Nat → Int32) : Prop := ∃ (t : Addr) (kb : ClassId) (cd : Int32) (N : Nat) (g : Nat → Int32), Exa Z h x "java/lang/String" ∧ Fld Z h x "java/lang/String" "value" "[B" (.ref t) ∧ Fld Z h x "java/lang/String" "coder" "B" (.int cd) ∧ Arg Z h t kb .byte N g ∧ Cdd n f cd N g ∧ (∀ i, i < n → ¬ f i < 0 ∧ ¬ (65535 : Int32) < f i) ∧ 2 * n < 2147483648
theorem UStr.ext {Z : State} {h h' : Heap} {x : Addr} {n : Nat} {f : Nat → Int32} (S : UStr Z h x n f) (E : Ext h h') : UStr Z h' x n f := by
  obtain ⟨t, kb, cd, N, g, a, b, c, d, r⟩ := S; exact ⟨t, kb, cd, N, g, a.ext E, b.ext E, c.ext E, d.ext E, r⟩
theorem UStr.exa {Z : State} {h : Heap} {x : Addr} {n : Nat} {f : Nat → Int32} (S : UStr Z h x n f) : Exa Z h x "java/lang/String" := by
  obtain ⟨t, kb, cd, N, g, a, r⟩ := S; exact a
theorem UStr.congr {Z : State} {h : Heap} {x : Addr} {n : Nat} {f f' : Nat → Int32} (S : UStr Z h x n f) (q : ∀ i, i < n → f i = f' i) : UStr Z h x n f' := by
  obtain ⟨t, kb, cd, N, g, a, b, c, d, r, u, w⟩ := S
  refine ⟨t, kb, cd, N, g, a, b, c, d, ?_, fun i hi => by rw [← q i hi]; exact u i hi, w⟩
  rcases r with ⟨r1, r2, r3⟩ | ⟨r1, r2, r3, j, r4, r5⟩
  · exact Or.inl ⟨r1, r2, fun i hi => by rw [← q i hi]; exact r3 i hi⟩
  · exact Or.inr ⟨r1, r2, fun i hi => by rw [← q i hi]; exact r3 i hi, j, r4, by rw [← q j r4]; exact r5⟩
theorem Arg.of {Z : State} {h : Heap} {a : Addr} {k : ClassId} {ty : FieldType} {vs : List Value} {f : Nat → Int32} (n : Nat) (V : Arv Z h a k ty (Int32.ofNat n) vs (.int 0)) (hl : vs.length = n) (hn : n < 2147483648) (w : ∀ i, i < n → vs.getD i (.int 0) = .int (f i)) : Arg Z h a k ty n f := ⟨vs, V, hl, hn, w⟩
theorem Cdd.cd {n : Nat} {f : Nat → Int32} {cd : Int32} {N : Nat} {g : Nat → Int32} (h : Cdd n f cd N g) : cd = 0 ∨ cd = 1 := h.imp (fun q => q.1) (fun q => q.1)
theorem Cdd.len {n : Nat} {f : Nat → Int32} {cd : Int32} {N : Nat} {g : Nat → Int32} (h : Cdd n f cd N g) (hn : 2 * n < 2147483648) : Int32.ofNat N >>> (cd &&& 31) = Int32.ofNat n := by
  rcases h with ⟨rfl, rfl, -⟩ | ⟨rfl, rfl, -⟩
  · exact StrChars.shr0 _
  · exact StrChars.shr1 hn
theorem Cdd.cfal {n : Nat} {f : Nat → Int32} {cd : Int32} {N : Nat} {g : Nat → Int32} (h : Cdd n f cd N g) (h0 : 0 < n) (hn : 2 * n < 2147483648) : (Jvm.Free.XT.ushr (Int32.ofNat n - Int32.ofNat N) 31).toInt8.toInt32 = cd := by
  rcases h with ⟨rfl, rfl, -⟩ | ⟨rfl, rfl, -⟩
  · rw [Int32.sub_self]; decide
  · have e : Jvm.Free.XT.ushr (Int32.ofNat n - Int32.ofNat (2 * n)) 31 = 1 := by
      unfold Jvm.Free.XT.ushr
      have e0 : ((31 : Int32) &&& 31).toUInt32 = 31 := by decide
      rw [e0]
      apply Int32.toBitVec_inj.mp
      apply BitVec.eq_of_toNat_eq
      show ((Int32.ofNat n - Int32.ofNat (2 * n)).toUInt32 >>> (31 : UInt32)).toNat = 1
      rw [UInt32.toNat_shiftRight]
      have e1 : (Int32.ofNat n - Int32.ofNat (2 * n)).toUInt32.toNat = 4294967296 - n := by
        show (BitVec.ofNat 32 n - BitVec.ofNat 32 (2 * n)).toNat = _
        rw [BitVec.toNat_sub, BitVec.toNat_ofNat, BitVec.toNat_ofNat]; omega
      rw [e1, Nat.shiftRight_eq_div_pow]
      show (4294967296 - n) / 2147483648 = 1
      omega
    rw [e]; decide
end W
end Jvm.Pilot.@@N@@
namespace Jvm.Pilot.@@N@@
open Jvm Jvm.ClassFile Sem Op Lib Jvm.Free Jvm.Stand Jvm.LawKit Jvm.RoadKit Bundle Jvm.Pilot.@@N@@.Jvm.D
theorem wd {a0 : Array Value} {Z : State} (hw : ∀ d ∈ tables_1, d.before a0 Z = true) {k : Nat} {d : Jvm.Cond} (h : tables_1[k]? = some d) : d.before a0 Z = true := hw d (List.mem_of_getElem? h)
abbrev ownEL : List (String × Nat) := [("java/lang/String", 7)]
theorem own_atoms : ∀ d ∈ Bundle.stringAtoms, d ∈ tables_1 := by decide +kernel
theorem own_consts : ∀ p ∈ ownEL, p ∈ consts_1 := by decide +kernel
theorem own_up {c : Int32} (h : ¬ (255 : Int32) < c) : ¬ (65535 : Int32) < c := by
  rw [Int32.lt_iff_toInt_lt] at h ⊢
  have e0 : (255 : Int32).toInt = 255 := rfl
  have e1 : (65535 : Int32).toInt = 65535 := rfl
  omega
theorem own_m255 (x : Int32) : ¬ (x &&& 255) < 0 ∧ ¬ (255 : Int32) < (x &&& 255) := by
  have q := c_mask x 255 8 (by decide) (by decide)
  have e0 : (0 : Int32).toInt = 0 := rfl
  have e1 : (255 : Int32).toInt = 255 := rfl
  rw [Int32.lt_iff_toInt_lt, Int32.lt_iff_toInt_lt]; omega
theorem own_nar255 (x : Int32) : nar .char (x &&& 255) = x &&& 255 := i2c_mask x
theorem own_mask3 (x : Int32) : (x &&& 3) = 0 ∨ (x &&& 3) = 1 ∨ (x &&& 3) = 2 ∨ (x &&& 3) = 3 := by
  have q := c_mask x 3 2 (by decide) (by decide)
  have r : (x &&& 3).toInt = 0 ∨ (x &&& 3).toInt = 1 ∨ (x &&& 3).toInt = 2 ∨ (x &&& 3).toInt = 3 := by omega
  rcases r with r | r | r | r
  · exact Or.inl (Int32.toInt_inj.mp r)
  · exact Or.inr (Or.inl (Int32.toInt_inj.mp r))
  · exact Or.inr (Or.inr (Or.inl (Int32.toInt_inj.mp r)))
  · exact Or.inr (Or.inr (Or.inr (Int32.toInt_inj.mp r)))
theorem own_rem (y : Int32) (k : Int32) (h : 0 ≤ y.toInt) (hk : 0 < k.toInt) : (y - y / k * k).toInt = y.toInt % k.toInt := by
  have d : (y / k).toInt = y.toInt / k.toInt := by
    rw [Int32.toInt_div, Int.tdiv_eq_ediv_of_nonneg h]
    have h1 : 0 ≤ y.toInt / k.toInt := Int.ediv_nonneg h (by omega)
    have h2 : y.toInt / k.toInt ≤ y.toInt := Int.ediv_le_self _ h
    have h3 := y.toInt_lt
    rw [Int.bmod_eq_of_le (by omega) (by omega)]
  have e := Int.mul_ediv_add_emod y.toInt k.toInt
  have e' : y.toInt / k.toInt * k.toInt = k.toInt * (y.toInt / k.toInt) := Int.mul_comm _ _
  have m0 := Int.emod_nonneg y.toInt (show k.toInt ≠ 0 by omega)
  have h0 : 0 ≤ k.toInt * (y.toInt / k.toInt) := Int.mul_nonneg (by omega) (Int.ediv_nonneg h (by omega))
  have h3 := y.toInt_lt
  have q : (y / k * k).toInt = y.toInt / k.toInt * k.toInt := by
    rw [Int32.toInt_mul, d, Int.bmod_eq_of_le (by omega) (by omega)]
  rw [Int32.toInt_sub, q, Int.bmod_eq_of_le (by omega) (by omega)]; omega
theorem own_eqI {args : Array Value} {first s : State} {o : Option Outcome} {idx : List Nat} {t : Term} {k : Int32} (h : (Jvm.Cond.eq t (.int k)).value args first o s idx = some true) : t.eval args first o idx s = some (.int k) := by
  obtain ⟨x, y, e1, e2, -, k2⟩ := cmp_v (Or.inl h)
  cases Option.some.inj ((Term.int_eval k).symm.trans e2)
  obtain ⟨z, rfl⟩ := k2
  rw [e1, gotT (Cond.eq_ints e1 e2) h]
theorem own_rf {C : String} {v : Value} (h : v.isRef = true) : narrow (.object C) v = v ∧ fits (.object C) v = true := by cases v <;> first | (cases h; done) | exact ⟨rfl, rfl⟩
theorem d1_0 : decode method_3_code 0 = .ok (.iload_n 1, 1) := by decide +kernel
theorem d1_1 : decode method_3_code 1 = .ok (.iconst 1, 1) := by decide +kernel
theorem d1_2 : decode method_3_code 2 = .ok (.if_icmp .ne 13, 3) := by decide +kernel
theorem d1_5 : decode method_3_code 5 = .ok (.ldc 32, 2) := by decide +kernel
theorem d1_7 : decode method_3_code 7 = .ok (.iload_n 0, 1) := by decide +kernel
theorem d1_8 : decode method_3_code 8 = .ok (.sipush 1023, 3) := by decide +kernel
theorem d1_11 : decode method_3_code 11 = .ok (.iand, 1) := by decide +kernel
theorem d1_12 : decode method_3_code 12 = .ok (.ior, 1) := by decide +kernel
theorem d1_13 : decode method_3_code 13 = .ok (.i2c, 1) := by decide +kernel
theorem d1_14 : decode method_3_code 14 = .ok (.ireturn, 1) := by decide +kernel
theorem d1_15 : decode method_3_code 15 = .ok (.iload_n 1, 1) := by decide +kernel
theorem d1_16 : decode method_3_code 16 = .ok (.iconst 2, 1) := by decide +kernel
theorem d1_17 : decode method_3_code 17 = .ok (.if_icmp .ne 13, 3) := by decide +kernel
theorem d1_20 : decode method_3_code 20 = .ok (.ldc 33, 2) := by decide +kernel
theorem d1_22 : decode method_3_code 22 = .ok (.iload_n 0, 1) := by decide +kernel
theorem d1_23 : decode method_3_code 23 = .ok (.sipush 1023, 3) := by decide +kernel
theorem d1_26 : decode method_3_code 26 = .ok (.iand, 1) := by decide +kernel
theorem d1_27 : decode method_3_code 27 = .ok (.ior, 1) := by decide +kernel
theorem d1_28 : decode method_3_code 28 = .ok (.i2c, 1) := by decide +kernel
theorem d1_29 : decode method_3_code 29 = .ok (.ireturn, 1) := by decide +kernel
theorem d1_30 : decode method_3_code 30 = .ok (.iload_n 0, 1) := by decide +kernel
theorem d1_31 : decode method_3_code 31 = .ok (.ireturn, 1) := by decide +kernel
theorem d2_0 : decode method_4_code 0 = .ok (.iload_n 3, 1) := by decide +kernel
theorem d2_1 : decode method_4_code 1 = .ok (.ifCond .ne 14, 3) := by decide +kernel
theorem d2_4 : decode method_4_code 4 = .ok (.new 34, 3) := by decide +kernel
theorem d2_7 : decode method_4_code 7 = .ok (.dup, 1) := by decide +kernel
theorem d2_8 : decode method_4_code 8 = .ok (.iconst 0, 1) := by decide +kernel
theorem d2_9 : decode method_4_code 9 = .ok (.newarray .char, 2) := by decide +kernel
theorem d2_11 : decode method_4_code 11 = .ok (.invokespecial 36, 3) := by decide +kernel
theorem d2_14 : decode method_4_code 14 = .ok (.areturn, 1) := by decide +kernel
theorem d2_15 : decode method_4_code 15 = .ok (.iload_n 3, 1) := by decide +kernel
theorem d2_16 : decode method_4_code 16 = .ok (.iconst 1, 1) := by decide +kernel
theorem d2_17 : decode method_4_code 17 = .ok (.if_icmp .ne 18, 3) := by decide +kernel
theorem d2_20 : decode method_4_code 20 = .ok (.new 34, 3) := by decide +kernel
theorem d2_23 : decode method_4_code 23 = .ok (.dup, 1) := by decide +kernel
theorem d2_24 : decode method_4_code 24 = .ok (.iconst 1, 1) := by decide +kernel
theorem d2_25 : decode method_4_code 25 = .ok (.newarray .char, 2) := by decide +kernel
theorem d2_27 : decode method_4_code 27 = .ok (.dup, 1) := by decide +kernel
theorem d2_28 : decode method_4_code 28 = .ok (.iconst 0, 1) := by decide +kernel
theorem d2_29 : decode method_4_code 29 = .ok (.iload_n 0, 1) := by decide +kernel
theorem d2_30 : decode method_4_code 30 = .ok (.castore, 1) := by decide +kernel
theorem d2_31 : decode method_4_code 31 = .ok (.invokespecial 36, 3) := by decide +kernel
theorem d2_34 : decode method_4_code 34 = .ok (.areturn, 1) := by decide +kernel
theorem d2_35 : decode method_4_code 35 = .ok (.iload_n 3, 1) := by decide +kernel
theorem d2_36 : decode method_4_code 36 = .ok (.iconst 2, 1) := by decide +kernel
theorem d2_37 : decode method_4_code 37 = .ok (.if_icmp .ne 22, 3) := by decide +kernel
theorem d2_40 : decode method_4_code 40 = .ok (.new 34, 3) := by decide +kernel
theorem d2_43 : decode method_4_code 43 = .ok (.dup, 1) := by decide +kernel
theorem d2_44 : decode method_4_code 44 = .ok (.iconst 2, 1) := by decide +kernel
theorem d2_45 : decode method_4_code 45 = .ok (.newarray .char, 2) := by decide +kernel
theorem d2_47 : decode method_4_code 47 = .ok (.dup, 1) := by decide +kernel
theorem d2_48 : decode method_4_code 48 = .ok (.iconst 0, 1) := by decide +kernel
theorem d2_49 : decode method_4_code 49 = .ok (.iload_n 0, 1) := by decide +kernel
theorem d2_50 : decode method_4_code 50 = .ok (.castore, 1) := by decide +kernel
theorem d2_51 : decode method_4_code 51 = .ok (.dup, 1) := by decide +kernel
theorem d2_52 : decode method_4_code 52 = .ok (.iconst 1, 1) := by decide +kernel
theorem d2_53 : decode method_4_code 53 = .ok (.iload_n 1, 1) := by decide +kernel
theorem d2_54 : decode method_4_code 54 = .ok (.castore, 1) := by decide +kernel
theorem d2_55 : decode method_4_code 55 = .ok (.invokespecial 36, 3) := by decide +kernel
theorem d2_58 : decode method_4_code 58 = .ok (.areturn, 1) := by decide +kernel
theorem d2_59 : decode method_4_code 59 = .ok (.new 34, 3) := by decide +kernel
theorem d2_62 : decode method_4_code 62 = .ok (.dup, 1) := by decide +kernel
theorem d2_63 : decode method_4_code 63 = .ok (.iconst 3, 1) := by decide +kernel
theorem d2_64 : decode method_4_code 64 = .ok (.newarray .char, 2) := by decide +kernel
theorem d2_66 : decode method_4_code 66 = .ok (.dup, 1) := by decide +kernel
theorem d2_67 : decode method_4_code 67 = .ok (.iconst 0, 1) := by decide +kernel
theorem d2_68 : decode method_4_code 68 = .ok (.iload_n 0, 1) := by decide +kernel
theorem d2_69 : decode method_4_code 69 = .ok (.castore, 1) := by decide +kernel
theorem d2_70 : decode method_4_code 70 = .ok (.dup, 1) := by decide +kernel
theorem d2_71 : decode method_4_code 71 = .ok (.iconst 1, 1) := by decide +kernel
theorem d2_72 : decode method_4_code 72 = .ok (.iload_n 1, 1) := by decide +kernel
theorem d2_73 : decode method_4_code 73 = .ok (.castore, 1) := by decide +kernel
theorem d2_74 : decode method_4_code 74 = .ok (.dup, 1) := by decide +kernel
theorem d2_75 : decode method_4_code 75 = .ok (.iconst 2, 1) := by decide +kernel
theorem d2_76 : decode method_4_code 76 = .ok (.iload_n 2, 1) := by decide +kernel
theorem d2_77 : decode method_4_code 77 = .ok (.castore, 1) := by decide +kernel
theorem d2_78 : decode method_4_code 78 = .ok (.invokespecial 36, 3) := by decide +kernel
theorem d2_81 : decode method_4_code 81 = .ok (.areturn, 1) := by decide +kernel
theorem d3_0 : decode jdk_42_method_3_code 0 = .ok (.aload_n 0, 1) := by decide +kernel
theorem d3_1 : decode jdk_42_method_3_code 1 = .ok (.aload_n 1, 1) := by decide +kernel
theorem d3_2 : decode jdk_42_method_3_code 2 = .ok (.iconst 0, 1) := by decide +kernel
theorem d3_3 : decode jdk_42_method_3_code 3 = .ok (.aload_n 1, 1) := by decide +kernel
theorem d3_4 : decode jdk_42_method_3_code 4 = .ok (.arraylength, 1) := by decide +kernel
theorem d3_5 : decode jdk_42_method_3_code 5 = .ok (.aconst_null, 1) := by decide +kernel
theorem d3_6 : decode jdk_42_method_3_code 6 = .ok (.invokespecial 27, 3) := by decide +kernel
theorem d3_9 : decode jdk_42_method_3_code 9 = .ok (.return_, 1) := by decide +kernel
theorem d4_0 : decode jdk_42_method_149_code 0 = .ok (.aload_n 0, 1) := by decide +kernel
theorem d4_1 : decode jdk_42_method_149_code 1 = .ok (.invokespecial 1, 3) := by decide +kernel
theorem d4_4 : decode jdk_42_method_149_code 4 = .ok (.iload_n 3, 1) := by decide +kernel
theorem d4_5 : decode jdk_42_method_149_code 5 = .ok (.ifCond .ne 22, 3) := by decide +kernel
theorem d4_8 : decode jdk_42_method_149_code 8 = .ok (.aload_n 0, 1) := by decide +kernel
theorem d4_9 : decode jdk_42_method_149_code 9 = .ok (.ldc 7, 2) := by decide +kernel
theorem d4_11 : decode jdk_42_method_149_code 11 = .ok (.getfield 9, 3) := by decide +kernel
theorem d4_14 : decode jdk_42_method_149_code 14 = .ok (.putfield 9, 3) := by decide +kernel
theorem d4_17 : decode jdk_42_method_149_code 17 = .ok (.aload_n 0, 1) := by decide +kernel
theorem d4_18 : decode jdk_42_method_149_code 18 = .ok (.ldc 7, 2) := by decide +kernel
theorem d4_20 : decode jdk_42_method_149_code 20 = .ok (.getfield 15, 3) := by decide +kernel
theorem d4_23 : decode jdk_42_method_149_code 23 = .ok (.putfield 15, 3) := by decide +kernel
theorem d4_26 : decode jdk_42_method_149_code 26 = .ok (.return_, 1) := by decide +kernel
theorem d4_27 : decode jdk_42_method_149_code 27 = .ok (.getstatic 38, 3) := by decide +kernel
theorem d4_30 : decode jdk_42_method_149_code 30 = .ok (.ifCond .eq 28, 3) := by decide +kernel
theorem d4_33 : decode jdk_42_method_149_code 33 = .ok (.aload_n 1, 1) := by decide +kernel
theorem d4_34 : decode jdk_42_method_149_code 34 = .ok (.iload_n 2, 1) := by decide +kernel
theorem d4_35 : decode jdk_42_method_149_code 35 = .ok (.iload_n 3, 1) := by decide +kernel
theorem d4_36 : decode jdk_42_method_149_code 36 = .ok (.invokestatic 177, 3) := by decide +kernel
theorem d4_39 : decode jdk_42_method_149_code 39 = .ok (.astore 5, 2) := by decide +kernel
theorem d4_41 : decode jdk_42_method_149_code 41 = .ok (.aload_n 0, 1) := by decide +kernel
theorem d4_42 : decode jdk_42_method_149_code 42 = .ok (.aload 5, 2) := by decide +kernel
theorem d4_44 : decode jdk_42_method_149_code 44 = .ok (.iload_n 3, 1) := by decide +kernel
theorem d4_45 : decode jdk_42_method_149_code 45 = .ok (.invokestatic 47, 3) := by decide +kernel
theorem d4_48 : decode jdk_42_method_149_code 48 = .ok (.putfield 15, 3) := by decide +kernel
theorem d4_51 : decode jdk_42_method_149_code 51 = .ok (.aload_n 0, 1) := by decide +kernel
theorem d4_52 : decode jdk_42_method_149_code 52 = .ok (.aload 5, 2) := by decide +kernel
theorem d4_54 : decode jdk_42_method_149_code 54 = .ok (.putfield 9, 3) := by decide +kernel
theorem d4_57 : decode jdk_42_method_149_code 57 = .ok (.return_, 1) := by decide +kernel
theorem d6_0 : decode method_7_code 0 = .ok (.iconst 3, 1) := by decide +kernel
theorem d6_1 : decode method_7_code 1 = .ok (.newarray .char, 2) := by decide +kernel
theorem d6_3 : decode method_7_code 3 = .ok (.dup, 1) := by decide +kernel
theorem d6_4 : decode method_7_code 4 = .ok (.iconst 0, 1) := by decide +kernel
theorem d6_5 : decode method_7_code 5 = .ok (.iload_n 0, 1) := by decide +kernel
theorem d6_6 : decode method_7_code 6 = .ok (.castore, 1) := by decide +kernel
theorem d6_7 : decode method_7_code 7 = .ok (.dup, 1) := by decide +kernel
theorem d6_8 : decode method_7_code 8 = .ok (.iconst 1, 1) := by decide +kernel
theorem d6_9 : decode method_7_code 9 = .ok (.iload_n 1, 1) := by decide +kernel
theorem d6_10 : decode method_7_code 10 = .ok (.castore, 1) := by decide +kernel
theorem d6_11 : decode method_7_code 11 = .ok (.dup, 1) := by decide +kernel
theorem d6_12 : decode method_7_code 12 = .ok (.iconst 2, 1) := by decide +kernel
theorem d6_13 : decode method_7_code 13 = .ok (.iload_n 2, 1) := by decide +kernel
theorem d6_14 : decode method_7_code 14 = .ok (.castore, 1) := by decide +kernel
theorem d6_15 : decode method_7_code 15 = .ok (.astore 4, 2) := by decide +kernel
theorem d6_17 : decode method_7_code 17 = .ok (.aload 4, 2) := by decide +kernel
theorem d6_19 : decode method_7_code 19 = .ok (.iload_n 3, 1) := by decide +kernel
theorem d6_20 : decode method_7_code 20 = .ok (.iconst 0, 1) := by decide +kernel
theorem d6_21 : decode method_7_code 21 = .ok (.invokestatic 42, 3) := by decide +kernel
theorem d6_24 : decode method_7_code 24 = .ok (.istore 5, 2) := by decide +kernel
theorem d6_26 : decode method_7_code 26 = .ok (.iload 5, 2) := by decide +kernel
theorem d6_28 : decode method_7_code 28 = .ok (.ifCond .ge 7, 3) := by decide +kernel
theorem d6_31 : decode method_7_code 31 = .ok (.iload_n 3, 1) := by decide +kernel
theorem d6_32 : decode method_7_code 32 = .ok (.goto 8, 3) := by decide +kernel
theorem d6_35 : decode method_7_code 35 = .ok (.iload 5, 2) := by decide +kernel
theorem d6_37 : decode method_7_code 37 = .ok (.invokestatic 46, 3) := by decide +kernel
theorem d6_40 : decode method_7_code 40 = .ok (.istore 6, 2) := by decide +kernel
theorem d6_42 : decode method_7_code 42 = .ok (.aload 4, 2) := by decide +kernel
theorem d6_44 : decode method_7_code 44 = .ok (.iload_n 3, 1) := by decide +kernel
theorem d6_45 : decode method_7_code 45 = .ok (.iload 6, 2) := by decide +kernel
theorem d6_47 : decode method_7_code 47 = .ok (.invokestatic 42, 3) := by decide +kernel
theorem d6_50 : decode method_7_code 50 = .ok (.istore 7, 2) := by decide +kernel
theorem d6_52 : decode method_7_code 52 = .ok (.iload 7, 2) := by decide +kernel
theorem d6_54 : decode method_7_code 54 = .ok (.ifCond .ge 7, 3) := by decide +kernel
theorem d6_57 : decode method_7_code 57 = .ok (.iload_n 3, 1) := by decide +kernel
theorem d6_58 : decode method_7_code 58 = .ok (.goto 11, 3) := by decide +kernel
theorem d6_61 : decode method_7_code 61 = .ok (.iload 6, 2) := by decide +kernel
theorem d6_63 : decode method_7_code 63 = .ok (.iload 7, 2) := by decide +kernel
theorem d6_65 : decode method_7_code 65 = .ok (.invokestatic 46, 3) := by decide +kernel
theorem d6_68 : decode method_7_code 68 = .ok (.iadd, 1) := by decide +kernel
theorem d6_69 : decode method_7_code 69 = .ok (.istore 8, 2) := by decide +kernel
theorem d6_71 : decode method_7_code 71 = .ok (.aload 4, 2) := by decide +kernel
theorem d6_73 : decode method_7_code 73 = .ok (.iload_n 3, 1) := by decide +kernel
theorem d6_74 : decode method_7_code 74 = .ok (.iload 8, 2) := by decide +kernel
theorem d6_76 : decode method_7_code 76 = .ok (.invokestatic 42, 3) := by decide +kernel
theorem d6_79 : decode method_7_code 79 = .ok (.istore 9, 2) := by decide +kernel
theorem d6_81 : decode method_7_code 81 = .ok (.iconst 3, 1) := by decide +kernel
theorem d6_82 : decode method_7_code 82 = .ok (.newarray .int, 2) := by decide +kernel
theorem d6_84 : decode method_7_code 84 = .ok (.dup, 1) := by decide +kernel
theorem d6_85 : decode method_7_code 85 = .ok (.iconst 0, 1) := by decide +kernel
theorem d6_86 : decode method_7_code 86 = .ok (.iload 5, 2) := by decide +kernel
theorem d6_88 : decode method_7_code 88 = .ok (.iastore, 1) := by decide +kernel
theorem d6_89 : decode method_7_code 89 = .ok (.dup, 1) := by decide +kernel
theorem d6_90 : decode method_7_code 90 = .ok (.iconst 1, 1) := by decide +kernel
theorem d6_91 : decode method_7_code 91 = .ok (.iload 7, 2) := by decide +kernel
theorem d6_93 : decode method_7_code 93 = .ok (.iastore, 1) := by decide +kernel
theorem d6_94 : decode method_7_code 94 = .ok (.dup, 1) := by decide +kernel
theorem d6_95 : decode method_7_code 95 = .ok (.iconst 2, 1) := by decide +kernel
theorem d6_96 : decode method_7_code 96 = .ok (.iload 9, 2) := by decide +kernel
theorem d6_98 : decode method_7_code 98 = .ok (.iastore, 1) := by decide +kernel
theorem d6_99 : decode method_7_code 99 = .ok (.areturn, 1) := by decide +kernel
theorem d7_0 : decode method_5_code 0 = .ok (.iload_n 2, 1) := by decide +kernel
theorem d7_1 : decode method_5_code 1 = .ok (.iload_n 1, 1) := by decide +kernel
theorem d7_2 : decode method_5_code 2 = .ok (.if_icmp .lt 5, 3) := by decide +kernel
theorem d7_5 : decode method_5_code 5 = .ok (.iconst (-1), 1) := by decide +kernel
theorem d7_6 : decode method_5_code 6 = .ok (.ireturn, 1) := by decide +kernel
theorem d7_7 : decode method_5_code 7 = .ok (.aload_n 0, 1) := by decide +kernel
theorem d7_8 : decode method_5_code 8 = .ok (.iload_n 2, 1) := by decide +kernel
theorem d7_9 : decode method_5_code 9 = .ok (.caload, 1) := by decide +kernel
theorem d7_10 : decode method_5_code 10 = .ok (.istore_n 3, 1) := by decide +kernel
theorem d7_11 : decode method_5_code 11 = .ok (.iload_n 3, 1) := by decide +kernel
theorem d7_12 : decode method_5_code 12 = .ok (.ldc 32, 2) := by decide +kernel
theorem d7_14 : decode method_5_code 14 = .ok (.if_icmp .lt 54, 3) := by decide +kernel
theorem d7_17 : decode method_5_code 17 = .ok (.iload_n 3, 1) := by decide +kernel
theorem d7_18 : decode method_5_code 18 = .ok (.ldc 39, 2) := by decide +kernel
theorem d7_20 : decode method_5_code 20 = .ok (.if_icmp .gt 48, 3) := by decide +kernel
theorem d7_23 : decode method_5_code 23 = .ok (.iload_n 2, 1) := by decide +kernel
theorem d7_24 : decode method_5_code 24 = .ok (.iconst 1, 1) := by decide +kernel
theorem d7_25 : decode method_5_code 25 = .ok (.iadd, 1) := by decide +kernel
theorem d7_26 : decode method_5_code 26 = .ok (.iload_n 1, 1) := by decide +kernel
theorem d7_27 : decode method_5_code 27 = .ok (.if_icmp .ge 41, 3) := by decide +kernel
theorem d7_30 : decode method_5_code 30 = .ok (.aload_n 0, 1) := by decide +kernel
theorem d7_31 : decode method_5_code 31 = .ok (.iload_n 2, 1) := by decide +kernel
theorem d7_32 : decode method_5_code 32 = .ok (.iconst 1, 1) := by decide +kernel
theorem d7_33 : decode method_5_code 33 = .ok (.iadd, 1) := by decide +kernel
theorem d7_34 : decode method_5_code 34 = .ok (.caload, 1) := by decide +kernel
theorem d7_35 : decode method_5_code 35 = .ok (.istore 4, 2) := by decide +kernel
theorem d7_37 : decode method_5_code 37 = .ok (.iload 4, 2) := by decide +kernel
theorem d7_39 : decode method_5_code 39 = .ok (.ldc 33, 2) := by decide +kernel
theorem d7_41 : decode method_5_code 41 = .ok (.if_icmp .lt 27, 3) := by decide +kernel
theorem d7_44 : decode method_5_code 44 = .ok (.iload 4, 2) := by decide +kernel
theorem d7_46 : decode method_5_code 46 = .ok (.ldc 40, 2) := by decide +kernel
theorem d7_48 : decode method_5_code 48 = .ok (.if_icmp .gt 20, 3) := by decide +kernel
theorem d7_51 : decode method_5_code 51 = .ok (.iload_n 3, 1) := by decide +kernel
theorem d7_52 : decode method_5_code 52 = .ok (.ldc 32, 2) := by decide +kernel
theorem d7_54 : decode method_5_code 54 = .ok (.isub, 1) := by decide +kernel
theorem d7_55 : decode method_5_code 55 = .ok (.bipush 10, 2) := by decide +kernel
theorem d7_57 : decode method_5_code 57 = .ok (.ishl, 1) := by decide +kernel
theorem d7_58 : decode method_5_code 58 = .ok (.iload 4, 2) := by decide +kernel
theorem d7_60 : decode method_5_code 60 = .ok (.ldc 33, 2) := by decide +kernel
theorem d7_62 : decode method_5_code 62 = .ok (.isub, 1) := by decide +kernel
theorem d7_63 : decode method_5_code 63 = .ok (.iadd, 1) := by decide +kernel
theorem d7_64 : decode method_5_code 64 = .ok (.ldc 41, 2) := by decide +kernel
theorem d7_66 : decode method_5_code 66 = .ok (.iadd, 1) := by decide +kernel
theorem d7_67 : decode method_5_code 67 = .ok (.ireturn, 1) := by decide +kernel
theorem d7_68 : decode method_5_code 68 = .ok (.iload_n 3, 1) := by decide +kernel
theorem d7_69 : decode method_5_code 69 = .ok (.ireturn, 1) := by decide +kernel
theorem d8_0 : decode method_8_code 0 = .ok (.iload_n 0, 1) := by decide +kernel
theorem d8_1 : decode method_8_code 1 = .ok (.iload_n 1, 1) := by decide +kernel
theorem d8_2 : decode method_8_code 2 = .ok (.if_icmp .ge 5, 3) := by decide +kernel
theorem d8_5 : decode method_8_code 5 = .ok (.iconst (-1), 1) := by decide +kernel
theorem d8_6 : decode method_8_code 6 = .ok (.ireturn, 1) := by decide +kernel
theorem d8_7 : decode method_8_code 7 = .ok (.iload_n 0, 1) := by decide +kernel
theorem d8_8 : decode method_8_code 8 = .ok (.iload_n 1, 1) := by decide +kernel
theorem d8_9 : decode method_8_code 9 = .ok (.if_icmp .le 5, 3) := by decide +kernel
theorem d8_12 : decode method_8_code 12 = .ok (.iconst 1, 1) := by decide +kernel
theorem d8_13 : decode method_8_code 13 = .ok (.ireturn, 1) := by decide +kernel
theorem d8_14 : decode method_8_code 14 = .ok (.iconst 0, 1) := by decide +kernel
theorem d8_15 : decode method_8_code 15 = .ok (.ireturn, 1) := by decide +kernel
theorem d9_0 : decode prog_29_method_2_code 0 = .ok (.aload_n 0, 1) := by decide +kernel
theorem d9_1 : decode prog_29_method_2_code 1 = .ok (.invokevirtual 7, 3) := by decide +kernel
theorem d9_4 : decode prog_29_method_2_code 4 = .ok (.aload_n 1, 1) := by decide +kernel
theorem d9_5 : decode prog_29_method_2_code 5 = .ok (.invokevirtual 7, 3) := by decide +kernel
theorem d9_8 : decode prog_29_method_2_code 8 = .ok (.invokestatic 13, 3) := by decide +kernel
theorem d9_11 : decode prog_29_method_2_code 11 = .ok (.istore_n 2, 1) := by decide +kernel
theorem d9_12 : decode prog_29_method_2_code 12 = .ok (.iconst 0, 1) := by decide +kernel
theorem d9_13 : decode prog_29_method_2_code 13 = .ok (.istore_n 3, 1) := by decide +kernel
theorem d9_14 : decode prog_29_method_2_code 14 = .ok (.iload_n 3, 1) := by decide +kernel
theorem d9_15 : decode prog_29_method_2_code 15 = .ok (.iload_n 2, 1) := by decide +kernel
theorem d9_16 : decode prog_29_method_2_code 16 = .ok (.if_icmp .ge 43, 3) := by decide +kernel
theorem d9_19 : decode prog_29_method_2_code 19 = .ok (.aload_n 0, 1) := by decide +kernel
theorem d9_20 : decode prog_29_method_2_code 20 = .ok (.iload_n 3, 1) := by decide +kernel
theorem d9_21 : decode prog_29_method_2_code 21 = .ok (.invokevirtual 19, 3) := by decide +kernel
theorem d9_24 : decode prog_29_method_2_code 24 = .ok (.istore 4, 2) := by decide +kernel
theorem d9_26 : decode prog_29_method_2_code 26 = .ok (.aload_n 1, 1) := by decide +kernel
theorem d9_27 : decode prog_29_method_2_code 27 = .ok (.iload_n 3, 1) := by decide +kernel
theorem d9_28 : decode prog_29_method_2_code 28 = .ok (.invokevirtual 19, 3) := by decide +kernel
theorem d9_31 : decode prog_29_method_2_code 31 = .ok (.istore 5, 2) := by decide +kernel
theorem d9_33 : decode prog_29_method_2_code 33 = .ok (.iload 4, 2) := by decide +kernel
theorem d9_35 : decode prog_29_method_2_code 35 = .ok (.iload 5, 2) := by decide +kernel
theorem d9_37 : decode prog_29_method_2_code 37 = .ok (.if_icmp .eq 11, 3) := by decide +kernel
theorem d9_40 : decode prog_29_method_2_code 40 = .ok (.iload 4, 2) := by decide +kernel
theorem d9_42 : decode prog_29_method_2_code 42 = .ok (.iload 5, 2) := by decide +kernel
theorem d9_44 : decode prog_29_method_2_code 44 = .ok (.invokestatic 23, 3) := by decide +kernel
theorem d9_47 : decode prog_29_method_2_code 47 = .ok (.ireturn, 1) := by decide +kernel
theorem d9_48 : decode prog_29_method_2_code 48 = .ok (.iload_n 3, 1) := by decide +kernel
theorem d9_49 : decode prog_29_method_2_code 49 = .ok (.iload 4, 2) := by decide +kernel
theorem d9_51 : decode prog_29_method_2_code 51 = .ok (.invokestatic 28, 3) := by decide +kernel
theorem d9_54 : decode prog_29_method_2_code 54 = .ok (.iadd, 1) := by decide +kernel
theorem d9_55 : decode prog_29_method_2_code 55 = .ok (.istore_n 3, 1) := by decide +kernel
theorem d9_56 : decode prog_29_method_2_code 56 = .ok (.goto (-42), 3) := by decide +kernel
theorem d9_59 : decode prog_29_method_2_code 59 = .ok (.aload_n 0, 1) := by decide +kernel
theorem d9_60 : decode prog_29_method_2_code 60 = .ok (.invokevirtual 7, 3) := by decide +kernel
theorem d9_63 : decode prog_29_method_2_code 63 = .ok (.aload_n 1, 1) := by decide +kernel
theorem d9_64 : decode prog_29_method_2_code 64 = .ok (.invokevirtual 7, 3) := by decide +kernel
theorem d9_67 : decode prog_29_method_2_code 67 = .ok (.invokestatic 23, 3) := by decide +kernel
theorem d9_70 : decode prog_29_method_2_code 70 = .ok (.ireturn, 1) := by decide +kernel
theorem d10_0 : decode jdk_42_method_54_code 0 = .ok (.aload_n 0, 1) := by decide +kernel
theorem d10_1 : decode jdk_42_method_54_code 1 = .ok (.getfield 9, 3) := by decide +kernel
theorem d10_4 : decode jdk_42_method_54_code 4 = .ok (.arraylength, 1) := by decide +kernel
theorem d10_5 : decode jdk_42_method_54_code 5 = .ok (.aload_n 0, 1) := by decide +kernel
theorem d10_6 : decode jdk_42_method_54_code 6 = .ok (.invokevirtual 335, 3) := by decide +kernel
theorem d10_9 : decode jdk_42_method_54_code 9 = .ok (.ishr, 1) := by decide +kernel
theorem d10_10 : decode jdk_42_method_54_code 10 = .ok (.ireturn, 1) := by decide +kernel
theorem d11_0 : decode jdk_42_method_152_code 0 = .ok (.getstatic 38, 3) := by decide +kernel
theorem d11_3 : decode jdk_42_method_152_code 3 = .ok (.ifCond .eq 10, 3) := by decide +kernel
theorem d11_6 : decode jdk_42_method_152_code 6 = .ok (.aload_n 0, 1) := by decide +kernel
theorem d11_7 : decode jdk_42_method_152_code 7 = .ok (.getfield 15, 3) := by decide +kernel
theorem d11_10 : decode jdk_42_method_152_code 10 = .ok (.goto 4, 3) := by decide +kernel
theorem d11_14 : decode jdk_42_method_152_code 14 = .ok (.ireturn, 1) := by decide +kernel
theorem d12_0 : decode jdk_29_method_69_code 0 = .ok (.iload_n 0, 1) := by decide +kernel
theorem d12_1 : decode jdk_29_method_69_code 1 = .ok (.iload_n 1, 1) := by decide +kernel
theorem d12_2 : decode jdk_29_method_69_code 2 = .ok (.if_icmp .gt 7, 3) := by decide +kernel
theorem d12_5 : decode jdk_29_method_69_code 5 = .ok (.iload_n 0, 1) := by decide +kernel
theorem d12_6 : decode jdk_29_method_69_code 6 = .ok (.goto 4, 3) := by decide +kernel
theorem d12_9 : decode jdk_29_method_69_code 9 = .ok (.iload_n 1, 1) := by decide +kernel
theorem d12_10 : decode jdk_29_method_69_code 10 = .ok (.ireturn, 1) := by decide +kernel
theorem d13_0 : decode jdk_33_method_40_code 0 = .ok (.iload_n 0, 1) := by decide +kernel
theorem d13_1 : decode jdk_33_method_40_code 1 = .ok (.iload_n 1, 1) := by decide +kernel
theorem d13_2 : decode jdk_33_method_40_code 2 = .ok (.if_icmp .ge 7, 3) := by decide +kernel
theorem d13_5 : decode jdk_33_method_40_code 5 = .ok (.iconst (-1), 1) := by decide +kernel
theorem d13_6 : decode jdk_33_method_40_code 6 = .ok (.goto 13, 3) := by decide +kernel
theorem d13_9 : decode jdk_33_method_40_code 9 = .ok (.iload_n 0, 1) := by decide +kernel
theorem d13_10 : decode jdk_33_method_40_code 10 = .ok (.iload_n 1, 1) := by decide +kernel
theorem d13_11 : decode jdk_33_method_40_code 11 = .ok (.if_icmp .ne 7, 3) := by decide +kernel
theorem d13_14 : decode jdk_33_method_40_code 14 = .ok (.iconst 0, 1) := by decide +kernel
theorem d13_15 : decode jdk_33_method_40_code 15 = .ok (.goto 4, 3) := by decide +kernel
theorem d13_18 : decode jdk_33_method_40_code 18 = .ok (.iconst 1, 1) := by decide +kernel
theorem d13_19 : decode jdk_33_method_40_code 19 = .ok (.ireturn, 1) := by decide +kernel
theorem d14_0 : decode jdk_52_method_16_code 0 = .ok (.iload_n 2, 1) := by decide +kernel
theorem d14_1 : decode jdk_52_method_16_code 1 = .ok (.newarray .byte, 2) := by decide +kernel
theorem d14_3 : decode jdk_52_method_16_code 3 = .ok (.astore_n 3, 1) := by decide +kernel
theorem d14_4 : decode jdk_52_method_16_code 4 = .ok (.aload_n 0, 1) := by decide +kernel
theorem d14_5 : decode jdk_52_method_16_code 5 = .ok (.iload_n 1, 1) := by decide +kernel
theorem d14_6 : decode jdk_52_method_16_code 6 = .ok (.aload_n 3, 1) := by decide +kernel
theorem d14_7 : decode jdk_52_method_16_code 7 = .ok (.iconst 0, 1) := by decide +kernel
theorem d14_8 : decode jdk_52_method_16_code 8 = .ok (.iload_n 2, 1) := by decide +kernel
theorem d14_9 : decode jdk_52_method_16_code 9 = .ok (.invokestatic 115, 3) := by decide +kernel
theorem d14_12 : decode jdk_52_method_16_code 12 = .ok (.istore 4, 2) := by decide +kernel
theorem d14_14 : decode jdk_52_method_16_code 14 = .ok (.iload 4, 2) := by decide +kernel
theorem d14_16 : decode jdk_52_method_16_code 16 = .ok (.iload_n 2, 1) := by decide +kernel
theorem d14_17 : decode jdk_52_method_16_code 17 = .ok (.if_icmp .eq 40, 3) := by decide +kernel
theorem d14_20 : decode jdk_52_method_16_code 20 = .ok (.aload_n 0, 1) := by decide +kernel
theorem d14_21 : decode jdk_52_method_16_code 21 = .ok (.iload_n 1, 1) := by decide +kernel
theorem d14_22 : decode jdk_52_method_16_code 22 = .ok (.iload_n 2, 1) := by decide +kernel
theorem d14_23 : decode jdk_52_method_16_code 23 = .ok (.invokestatic 119, 3) := by decide +kernel
theorem d14_26 : decode jdk_52_method_16_code 26 = .ok (.astore 5, 2) := by decide +kernel
theorem d14_28 : decode jdk_52_method_16_code 28 = .ok (.aload 5, 2) := by decide +kernel
theorem d14_30 : decode jdk_52_method_16_code 30 = .ok (.iload 4, 2) := by decide +kernel
theorem d14_32 : decode jdk_52_method_16_code 32 = .ok (.invokestatic 71, 3) := by decide +kernel
theorem d14_35 : decode jdk_52_method_16_code 35 = .ok (.sipush 255, 3) := by decide +kernel
theorem d14_38 : decode jdk_52_method_16_code 38 = .ok (.if_icmp .gt 16, 3) := by decide +kernel
theorem d14_54 : decode jdk_52_method_16_code 54 = .ok (.aload 5, 2) := by decide +kernel
theorem d14_56 : decode jdk_52_method_16_code 56 = .ok (.areturn, 1) := by decide +kernel
theorem d14_57 : decode jdk_52_method_16_code 57 = .ok (.aload_n 3, 1) := by decide +kernel
theorem d14_58 : decode jdk_52_method_16_code 58 = .ok (.areturn, 1) := by decide +kernel
theorem d15_0 : decode jdk_52_method_21_code 0 = .ok (.iconst 0, 1) := by decide +kernel
theorem d15_1 : decode jdk_52_method_21_code 1 = .ok (.istore 5, 2) := by decide +kernel
theorem d15_3 : decode jdk_52_method_21_code 3 = .ok (.iload 5, 2) := by decide +kernel
theorem d15_5 : decode jdk_52_method_21_code 5 = .ok (.iload 4, 2) := by decide +kernel
theorem d15_7 : decode jdk_52_method_21_code 7 = .ok (.if_icmp .ge 37, 3) := by decide +kernel
theorem d15_10 : decode jdk_52_method_21_code 10 = .ok (.aload_n 0, 1) := by decide +kernel
theorem d15_11 : decode jdk_52_method_21_code 11 = .ok (.iload_n 1, 1) := by decide +kernel
theorem d15_12 : decode jdk_52_method_21_code 12 = .ok (.caload, 1) := by decide +kernel
theorem d15_13 : decode jdk_52_method_21_code 13 = .ok (.istore 6, 2) := by decide +kernel
theorem d15_15 : decode jdk_52_method_21_code 15 = .ok (.iload 6, 2) := by decide +kernel
theorem d15_17 : decode jdk_52_method_21_code 17 = .ok (.sipush 255, 3) := by decide +kernel
theorem d15_20 : decode jdk_52_method_21_code 20 = .ok (.if_icmp .le 6, 3) := by decide +kernel
theorem d15_23 : decode jdk_52_method_21_code 23 = .ok (.iload 5, 2) := by decide +kernel
theorem d15_25 : decode jdk_52_method_21_code 25 = .ok (.ireturn, 1) := by decide +kernel
theorem d15_26 : decode jdk_52_method_21_code 26 = .ok (.aload_n 2, 1) := by decide +kernel
theorem d15_27 : decode jdk_52_method_21_code 27 = .ok (.iload_n 3, 1) := by decide +kernel
theorem d15_28 : decode jdk_52_method_21_code 28 = .ok (.iload 6, 2) := by decide +kernel
theorem d15_30 : decode jdk_52_method_21_code 30 = .ok (.i2b, 1) := by decide +kernel
theorem d15_31 : decode jdk_52_method_21_code 31 = .ok (.bastore, 1) := by decide +kernel
theorem d15_32 : decode jdk_52_method_21_code 32 = .ok (.iinc 1 1, 3) := by decide +kernel
theorem d15_35 : decode jdk_52_method_21_code 35 = .ok (.iinc 3 1, 3) := by decide +kernel
theorem d15_38 : decode jdk_52_method_21_code 38 = .ok (.iinc 5 1, 3) := by decide +kernel
theorem d15_41 : decode jdk_52_method_21_code 41 = .ok (.goto (-38), 3) := by decide +kernel
theorem d15_44 : decode jdk_52_method_21_code 44 = .ok (.iload 4, 2) := by decide +kernel
theorem d15_46 : decode jdk_52_method_21_code 46 = .ok (.ireturn, 1) := by decide +kernel
theorem d16_0 : decode jdk_52_method_15_code 0 = .ok (.iload_n 1, 1) := by decide +kernel
theorem d16_1 : decode jdk_52_method_15_code 1 = .ok (.aload_n 0, 1) := by decide +kernel
theorem d16_2 : decode jdk_52_method_15_code 2 = .ok (.arraylength, 1) := by decide +kernel
theorem d16_3 : decode jdk_52_method_15_code 3 = .ok (.isub, 1) := by decide +kernel
theorem d16_4 : decode jdk_52_method_15_code 4 = .ok (.bipush 31, 2) := by decide +kernel
theorem d16_6 : decode jdk_52_method_15_code 6 = .ok (.iushr, 1) := by decide +kernel
theorem d16_7 : decode jdk_52_method_15_code 7 = .ok (.i2b, 1) := by decide +kernel
theorem d16_8 : decode jdk_52_method_15_code 8 = .ok (.ireturn, 1) := by decide +kernel
theorem d17_0 : decode method_6_code 0 = .ok (.iload_n 0, 1) := by decide +kernel
theorem d17_1 : decode method_6_code 1 = .ok (.ldc 41, 2) := by decide +kernel
theorem d17_3 : decode method_6_code 3 = .ok (.if_icmp .lt 7, 3) := by decide +kernel
theorem d17_6 : decode method_6_code 6 = .ok (.iconst 2, 1) := by decide +kernel
theorem d17_7 : decode method_6_code 7 = .ok (.goto 4, 3) := by decide +kernel
theorem d17_10 : decode method_6_code 10 = .ok (.iconst 1, 1) := by decide +kernel
theorem d17_11 : decode method_6_code 11 = .ok (.ireturn, 1) := by decide +kernel
theorem d18_0 : decode jdk_42_method_57_code 0 = .ok (.aload_n 0, 1) := by decide +kernel
theorem d18_1 : decode jdk_42_method_57_code 1 = .ok (.invokevirtual 492, 3) := by decide +kernel
theorem d18_4 : decode jdk_42_method_57_code 4 = .ok (.ifCond .eq 23, 3) := by decide +kernel
theorem d18_7 : decode jdk_42_method_57_code 7 = .ok (.iload_n 1, 1) := by decide +kernel
theorem d18_8 : decode jdk_42_method_57_code 8 = .ok (.aload_n 0, 1) := by decide +kernel
theorem d18_9 : decode jdk_42_method_57_code 9 = .ok (.getfield 9, 3) := by decide +kernel
theorem d18_12 : decode jdk_42_method_57_code 12 = .ok (.arraylength, 1) := by decide +kernel
theorem d18_13 : decode jdk_42_method_57_code 13 = .ok (.invokestatic 499, 3) := by decide +kernel
theorem d18_16 : decode jdk_42_method_57_code 16 = .ok (.aload_n 0, 1) := by decide +kernel
theorem d18_17 : decode jdk_42_method_57_code 17 = .ok (.getfield 9, 3) := by decide +kernel
theorem d18_20 : decode jdk_42_method_57_code 20 = .ok (.iload_n 1, 1) := by decide +kernel
theorem d18_21 : decode jdk_42_method_57_code 21 = .ok (.baload, 1) := by decide +kernel
theorem d18_22 : decode jdk_42_method_57_code 22 = .ok (.sipush 255, 3) := by decide +kernel
theorem d18_25 : decode jdk_42_method_57_code 25 = .ok (.iand, 1) := by decide +kernel
theorem d18_26 : decode jdk_42_method_57_code 26 = .ok (.ireturn, 1) := by decide +kernel
theorem d18_27 : decode jdk_42_method_57_code 27 = .ok (.aload_n 0, 1) := by decide +kernel
theorem d18_28 : decode jdk_42_method_57_code 28 = .ok (.getfield 9, 3) := by decide +kernel
theorem d18_31 : decode jdk_42_method_57_code 31 = .ok (.arraylength, 1) := by decide +kernel
theorem d18_32 : decode jdk_42_method_57_code 32 = .ok (.iconst 1, 1) := by decide +kernel
theorem d18_33 : decode jdk_42_method_57_code 33 = .ok (.ishr, 1) := by decide +kernel
theorem d18_34 : decode jdk_42_method_57_code 34 = .ok (.istore_n 2, 1) := by decide +kernel
theorem d18_35 : decode jdk_42_method_57_code 35 = .ok (.iload_n 1, 1) := by decide +kernel
theorem d18_36 : decode jdk_42_method_57_code 36 = .ok (.iload_n 2, 1) := by decide +kernel
theorem d18_37 : decode jdk_42_method_57_code 37 = .ok (.invokestatic 499, 3) := by decide +kernel
theorem d18_40 : decode jdk_42_method_57_code 40 = .ok (.aload_n 0, 1) := by decide +kernel
theorem d18_41 : decode jdk_42_method_57_code 41 = .ok (.getfield 9, 3) := by decide +kernel
theorem d18_44 : decode jdk_42_method_57_code 44 = .ok (.iload_n 1, 1) := by decide +kernel
theorem d18_45 : decode jdk_42_method_57_code 45 = .ok (.iload_n 2, 1) := by decide +kernel
theorem d18_46 : decode jdk_42_method_57_code 46 = .ok (.invokestatic 502, 3) := by decide +kernel
theorem d18_49 : decode jdk_42_method_57_code 49 = .ok (.ireturn, 1) := by decide +kernel
theorem d19_0 : decode jdk_42_method_154_code 0 = .ok (.getstatic 38, 3) := by decide +kernel
theorem d19_3 : decode jdk_42_method_154_code 3 = .ok (.ifCond .eq 14, 3) := by decide +kernel
theorem d19_6 : decode jdk_42_method_154_code 6 = .ok (.aload_n 0, 1) := by decide +kernel
theorem d19_7 : decode jdk_42_method_154_code 7 = .ok (.getfield 15, 3) := by decide +kernel
theorem d19_10 : decode jdk_42_method_154_code 10 = .ok (.ifCond .ne 7, 3) := by decide +kernel
theorem d19_13 : decode jdk_42_method_154_code 13 = .ok (.iconst 1, 1) := by decide +kernel
theorem d19_14 : decode jdk_42_method_154_code 14 = .ok (.goto 4, 3) := by decide +kernel
theorem d19_17 : decode jdk_42_method_154_code 17 = .ok (.iconst 0, 1) := by decide +kernel
theorem d19_18 : decode jdk_42_method_154_code 18 = .ok (.ireturn, 1) := by decide +kernel
theorem d20_0 : decode jdk_42_method_155_code 0 = .ok (.iload_n 0, 1) := by decide +kernel
theorem d20_1 : decode jdk_42_method_155_code 1 = .ok (.iload_n 1, 1) := by decide +kernel
theorem d20_2 : decode jdk_42_method_155_code 2 = .ok (.getstatic 1053, 3) := by decide +kernel
theorem d20_5 : decode jdk_42_method_155_code 5 = .ok (.invokestatic 1059, 3) := by decide +kernel
theorem d20_8 : decode jdk_42_method_155_code 8 = .ok (.pop, 1) := by decide +kernel
theorem d20_9 : decode jdk_42_method_155_code 9 = .ok (.return_, 1) := by decide +kernel
theorem d21_0 : decode jdk_41_method_11_code 0 = .ok (.iload_n 0, 1) := by decide +kernel
theorem d21_1 : decode jdk_41_method_11_code 1 = .ok (.ifCond .lt 8, 3) := by decide +kernel
theorem d21_4 : decode jdk_41_method_11_code 4 = .ok (.iload_n 0, 1) := by decide +kernel
theorem d21_5 : decode jdk_41_method_11_code 5 = .ok (.iload_n 1, 1) := by decide +kernel
theorem d21_6 : decode jdk_41_method_11_code 6 = .ok (.if_icmp .lt 10, 3) := by decide +kernel
theorem d21_16 : decode jdk_41_method_11_code 16 = .ok (.iload_n 0, 1) := by decide +kernel
theorem d21_17 : decode jdk_41_method_11_code 17 = .ok (.ireturn, 1) := by decide +kernel
theorem d22_0 : decode jdk_52_method_14_code 0 = .ok (.iload_n 2, 1) := by decide +kernel
theorem d22_1 : decode jdk_52_method_14_code 1 = .ok (.invokestatic 107, 3) := by decide +kernel
theorem d22_4 : decode jdk_52_method_14_code 4 = .ok (.astore_n 3, 1) := by decide +kernel
theorem d22_5 : decode jdk_52_method_14_code 5 = .ok (.iconst 0, 1) := by decide +kernel
theorem d22_6 : decode jdk_52_method_14_code 6 = .ok (.istore 4, 2) := by decide +kernel
theorem d22_8 : decode jdk_52_method_14_code 8 = .ok (.iload 4, 2) := by decide +kernel
theorem d22_10 : decode jdk_52_method_14_code 10 = .ok (.iload_n 2, 1) := by decide +kernel
theorem d22_11 : decode jdk_52_method_14_code 11 = .ok (.if_icmp .ge 21, 3) := by decide +kernel
theorem d22_14 : decode jdk_52_method_14_code 14 = .ok (.aload_n 3, 1) := by decide +kernel
theorem d22_15 : decode jdk_52_method_14_code 15 = .ok (.iload 4, 2) := by decide +kernel
theorem d22_17 : decode jdk_52_method_14_code 17 = .ok (.aload_n 0, 1) := by decide +kernel
theorem d22_18 : decode jdk_52_method_14_code 18 = .ok (.iload_n 1, 1) := by decide +kernel
theorem d22_19 : decode jdk_52_method_14_code 19 = .ok (.caload, 1) := by decide +kernel
theorem d22_20 : decode jdk_52_method_14_code 20 = .ok (.invokestatic 111, 3) := by decide +kernel
theorem d22_23 : decode jdk_52_method_14_code 23 = .ok (.iinc 1 1, 3) := by decide +kernel
theorem d22_26 : decode jdk_52_method_14_code 26 = .ok (.iinc 4 1, 3) := by decide +kernel
theorem d22_29 : decode jdk_52_method_14_code 29 = .ok (.goto (-21), 3) := by decide +kernel
theorem d22_32 : decode jdk_52_method_14_code 32 = .ok (.aload_n 3, 1) := by decide +kernel
theorem d22_33 : decode jdk_52_method_14_code 33 = .ok (.areturn, 1) := by decide +kernel
theorem d23_0 : decode jdk_52_method_2_code 0 = .ok (.iload_n 0, 1) := by decide +kernel
theorem d23_1 : decode jdk_52_method_2_code 1 = .ok (.invokestatic 11, 3) := by decide +kernel
theorem d23_4 : decode jdk_52_method_2_code 4 = .ok (.newarray .byte, 2) := by decide +kernel
theorem d23_6 : decode jdk_52_method_2_code 6 = .ok (.areturn, 1) := by decide +kernel
theorem d24_0 : decode jdk_52_method_3_code 0 = .ok (.iload_n 0, 1) := by decide +kernel
theorem d24_1 : decode jdk_52_method_3_code 1 = .ok (.ifCond .ge 11, 3) := by decide +kernel
theorem d24_12 : decode jdk_52_method_3_code 12 = .ok (.iload_n 0, 1) := by decide +kernel
theorem d24_13 : decode jdk_52_method_3_code 13 = .ok (.ldc 20, 2) := by decide +kernel
theorem d24_15 : decode jdk_52_method_3_code 15 = .ok (.if_icmp .lt 40, 3) := by decide +kernel
theorem d24_55 : decode jdk_52_method_3_code 55 = .ok (.iload_n 0, 1) := by decide +kernel
theorem d24_56 : decode jdk_52_method_3_code 56 = .ok (.iconst 1, 1) := by decide +kernel
theorem d24_57 : decode jdk_52_method_3_code 57 = .ok (.ishl, 1) := by decide +kernel
theorem d24_58 : decode jdk_52_method_3_code 58 = .ok (.ireturn, 1) := by decide +kernel
theorem d25_0 : decode jdk_52_method_4_code 0 = .ok (.getstatic 44, 3) := by decide +kernel
theorem d25_3 : decode jdk_52_method_4_code 3 = .ok (.ifCond .ne 25, 3) := by decide +kernel
theorem d25_28 : decode jdk_52_method_4_code 28 = .ok (.iload_n 1, 1) := by decide +kernel
theorem d25_29 : decode jdk_52_method_4_code 29 = .ok (.iconst 1, 1) := by decide +kernel
theorem d25_30 : decode jdk_52_method_4_code 30 = .ok (.ishl, 1) := by decide +kernel
theorem d25_31 : decode jdk_52_method_4_code 31 = .ok (.istore_n 1, 1) := by decide +kernel
theorem d25_32 : decode jdk_52_method_4_code 32 = .ok (.aload_n 0, 1) := by decide +kernel
theorem d25_33 : decode jdk_52_method_4_code 33 = .ok (.iload_n 1, 1) := by decide +kernel
theorem d25_34 : decode jdk_52_method_4_code 34 = .ok (.iinc 1 1, 3) := by decide +kernel
theorem d25_37 : decode jdk_52_method_4_code 37 = .ok (.iload_n 2, 1) := by decide +kernel
theorem d25_38 : decode jdk_52_method_4_code 38 = .ok (.getstatic 59, 3) := by decide +kernel
theorem d25_41 : decode jdk_52_method_4_code 41 = .ok (.ishr, 1) := by decide +kernel
theorem d25_42 : decode jdk_52_method_4_code 42 = .ok (.i2b, 1) := by decide +kernel
theorem d25_43 : decode jdk_52_method_4_code 43 = .ok (.bastore, 1) := by decide +kernel
theorem d25_44 : decode jdk_52_method_4_code 44 = .ok (.aload_n 0, 1) := by decide +kernel
theorem d25_45 : decode jdk_52_method_4_code 45 = .ok (.iload_n 1, 1) := by decide +kernel
theorem d25_46 : decode jdk_52_method_4_code 46 = .ok (.iload_n 2, 1) := by decide +kernel
theorem d25_47 : decode jdk_52_method_4_code 47 = .ok (.getstatic 63, 3) := by decide +kernel
theorem d25_50 : decode jdk_52_method_4_code 50 = .ok (.ishr, 1) := by decide +kernel
theorem d25_51 : decode jdk_52_method_4_code 51 = .ok (.i2b, 1) := by decide +kernel
theorem d25_52 : decode jdk_52_method_4_code 52 = .ok (.bastore, 1) := by decide +kernel
theorem d25_53 : decode jdk_52_method_4_code 53 = .ok (.return_, 1) := by decide +kernel
theorem d26_0 : decode jdk_52_method_5_code 0 = .ok (.getstatic 44, 3) := by decide +kernel
theorem d26_3 : decode jdk_52_method_5_code 3 = .ok (.ifCond .ne 25, 3) := by decide +kernel
theorem d26_28 : decode jdk_52_method_5_code 28 = .ok (.iload_n 1, 1) := by decide +kernel
theorem d26_29 : decode jdk_52_method_5_code 29 = .ok (.iconst 1, 1) := by decide +kernel
theorem d26_30 : decode jdk_52_method_5_code 30 = .ok (.ishl, 1) := by decide +kernel
theorem d26_31 : decode jdk_52_method_5_code 31 = .ok (.istore_n 1, 1) := by decide +kernel
theorem d26_32 : decode jdk_52_method_5_code 32 = .ok (.aload_n 0, 1) := by decide +kernel
theorem d26_33 : decode jdk_52_method_5_code 33 = .ok (.iload_n 1, 1) := by decide +kernel
theorem d26_34 : decode jdk_52_method_5_code 34 = .ok (.iinc 1 1, 3) := by decide +kernel
theorem d26_37 : decode jdk_52_method_5_code 37 = .ok (.baload, 1) := by decide +kernel
theorem d26_38 : decode jdk_52_method_5_code 38 = .ok (.sipush 255, 3) := by decide +kernel
theorem d26_41 : decode jdk_52_method_5_code 41 = .ok (.iand, 1) := by decide +kernel
theorem d26_42 : decode jdk_52_method_5_code 42 = .ok (.getstatic 59, 3) := by decide +kernel
theorem d26_45 : decode jdk_52_method_5_code 45 = .ok (.ishl, 1) := by decide +kernel
theorem d26_46 : decode jdk_52_method_5_code 46 = .ok (.aload_n 0, 1) := by decide +kernel
theorem d26_47 : decode jdk_52_method_5_code 47 = .ok (.iload_n 1, 1) := by decide +kernel
theorem d26_48 : decode jdk_52_method_5_code 48 = .ok (.baload, 1) := by decide +kernel
theorem d26_49 : decode jdk_52_method_5_code 49 = .ok (.sipush 255, 3) := by decide +kernel
theorem d26_52 : decode jdk_52_method_5_code 52 = .ok (.iand, 1) := by decide +kernel
theorem d26_53 : decode jdk_52_method_5_code 53 = .ok (.getstatic 63, 3) := by decide +kernel
theorem d26_56 : decode jdk_52_method_5_code 56 = .ok (.ishl, 1) := by decide +kernel
theorem d26_57 : decode jdk_52_method_5_code 57 = .ok (.ior, 1) := by decide +kernel
theorem d26_58 : decode jdk_52_method_5_code 58 = .ok (.i2c, 1) := by decide +kernel
theorem d26_59 : decode jdk_52_method_5_code 59 = .ok (.ireturn, 1) := by decide +kernel
theorem d27_0 : decode jdk_52_method_8_code 0 = .ok (.aload_n 0, 1) := by decide +kernel
theorem d27_1 : decode jdk_52_method_8_code 1 = .ok (.iload_n 1, 1) := by decide +kernel
theorem d27_2 : decode jdk_52_method_8_code 2 = .ok (.iload_n 2, 1) := by decide +kernel
theorem d27_3 : decode jdk_52_method_8_code 3 = .ok (.iconst 0, 1) := by decide +kernel
theorem d27_4 : decode jdk_52_method_8_code 4 = .ok (.invokestatic 88, 3) := by decide +kernel
theorem d27_7 : decode jdk_52_method_8_code 7 = .ok (.ireturn, 1) := by decide +kernel
theorem d28_0 : decode jdk_52_method_7_code 0 = .ok (.getstatic 44, 3) := by decide +kernel
theorem d28_3 : decode jdk_52_method_7_code 3 = .ok (.ifCond .ne 16, 3) := by decide +kernel
theorem d28_19 : decode jdk_52_method_7_code 19 = .ok (.iload_n 3, 1) := by decide +kernel
theorem d28_20 : decode jdk_52_method_7_code 20 = .ok (.ifCond .eq 8, 3) := by decide +kernel
theorem d28_28 : decode jdk_52_method_7_code 28 = .ok (.aload_n 0, 1) := by decide +kernel
theorem d28_29 : decode jdk_52_method_7_code 29 = .ok (.iload_n 1, 1) := by decide +kernel
theorem d28_30 : decode jdk_52_method_7_code 30 = .ok (.invokestatic 71, 3) := by decide +kernel
theorem d28_33 : decode jdk_52_method_7_code 33 = .ok (.istore 4, 2) := by decide +kernel
theorem d28_35 : decode jdk_52_method_7_code 35 = .ok (.iload 4, 2) := by decide +kernel
theorem d28_37 : decode jdk_52_method_7_code 37 = .ok (.invokestatic 75, 3) := by decide +kernel
theorem d28_40 : decode jdk_52_method_7_code 40 = .ok (.ifCond .eq 43, 3) := by decide +kernel
theorem d28_43 : decode jdk_52_method_7_code 43 = .ok (.iinc 1 1, 3) := by decide +kernel
theorem d28_46 : decode jdk_52_method_7_code 46 = .ok (.iload_n 1, 1) := by decide +kernel
theorem d28_47 : decode jdk_52_method_7_code 47 = .ok (.iload_n 2, 1) := by decide +kernel
theorem d28_48 : decode jdk_52_method_7_code 48 = .ok (.if_icmp .ge 35, 3) := by decide +kernel
theorem d28_51 : decode jdk_52_method_7_code 51 = .ok (.iload_n 3, 1) := by decide +kernel
theorem d28_52 : decode jdk_52_method_7_code 52 = .ok (.ifCond .eq 8, 3) := by decide +kernel
theorem d28_60 : decode jdk_52_method_7_code 60 = .ok (.aload_n 0, 1) := by decide +kernel
theorem d28_61 : decode jdk_52_method_7_code 61 = .ok (.iload_n 1, 1) := by decide +kernel
theorem d28_62 : decode jdk_52_method_7_code 62 = .ok (.invokestatic 71, 3) := by decide +kernel
theorem d28_65 : decode jdk_52_method_7_code 65 = .ok (.istore 5, 2) := by decide +kernel
theorem d28_67 : decode jdk_52_method_7_code 67 = .ok (.iload 5, 2) := by decide +kernel
theorem d28_69 : decode jdk_52_method_7_code 69 = .ok (.invokestatic 81, 3) := by decide +kernel
theorem d28_72 : decode jdk_52_method_7_code 72 = .ok (.ifCond .eq 11, 3) := by decide +kernel
theorem d28_75 : decode jdk_52_method_7_code 75 = .ok (.iload 4, 2) := by decide +kernel
theorem d28_77 : decode jdk_52_method_7_code 77 = .ok (.iload 5, 2) := by decide +kernel
theorem d28_79 : decode jdk_52_method_7_code 79 = .ok (.invokestatic 84, 3) := by decide +kernel
theorem d28_82 : decode jdk_52_method_7_code 82 = .ok (.ireturn, 1) := by decide +kernel
theorem d28_83 : decode jdk_52_method_7_code 83 = .ok (.iload 4, 2) := by decide +kernel
theorem d28_85 : decode jdk_52_method_7_code 85 = .ok (.ireturn, 1) := by decide +kernel
theorem d29_0 : decode jdk_89_method_14_code 0 = .ok (.iload_n 0, 1) := by decide +kernel
theorem d29_1 : decode jdk_89_method_14_code 1 = .ok (.ldc 75, 2) := by decide +kernel
theorem d29_3 : decode jdk_89_method_14_code 3 = .ok (.if_icmp .lt 13, 3) := by decide +kernel
theorem d29_6 : decode jdk_89_method_14_code 6 = .ok (.iload_n 0, 1) := by decide +kernel
theorem d29_7 : decode jdk_89_method_14_code 7 = .ok (.ldc 76, 2) := by decide +kernel
theorem d29_9 : decode jdk_89_method_14_code 9 = .ok (.if_icmp .ge 7, 3) := by decide +kernel
theorem d29_12 : decode jdk_89_method_14_code 12 = .ok (.iconst 1, 1) := by decide +kernel
theorem d29_13 : decode jdk_89_method_14_code 13 = .ok (.goto 4, 3) := by decide +kernel
theorem d29_16 : decode jdk_89_method_14_code 16 = .ok (.iconst 0, 1) := by decide +kernel
theorem d29_17 : decode jdk_89_method_14_code 17 = .ok (.ireturn, 1) := by decide +kernel
theorem d30_0 : decode jdk_89_method_18_code 0 = .ok (.iload_n 0, 1) := by decide +kernel
theorem d30_1 : decode jdk_89_method_18_code 1 = .ok (.ldc 73, 2) := by decide +kernel
theorem d30_3 : decode jdk_89_method_18_code 3 = .ok (.if_icmp .lt 7, 3) := by decide +kernel
theorem d30_6 : decode jdk_89_method_18_code 6 = .ok (.iconst 2, 1) := by decide +kernel
theorem d30_7 : decode jdk_89_method_18_code 7 = .ok (.goto 4, 3) := by decide +kernel
theorem d30_10 : decode jdk_89_method_18_code 10 = .ok (.iconst 1, 1) := by decide +kernel
theorem d30_11 : decode jdk_89_method_18_code 11 = .ok (.ireturn, 1) := by decide +kernel
theorem d31_0 : decode jdk_89_method_15_code 0 = .ok (.iload_n 0, 1) := by decide +kernel
theorem d31_1 : decode jdk_89_method_15_code 1 = .ok (.ldc 76, 2) := by decide +kernel
theorem d31_3 : decode jdk_89_method_15_code 3 = .ok (.if_icmp .lt 13, 3) := by decide +kernel
theorem d31_6 : decode jdk_89_method_15_code 6 = .ok (.iload_n 0, 1) := by decide +kernel
theorem d31_7 : decode jdk_89_method_15_code 7 = .ok (.ldc 77, 2) := by decide +kernel
theorem d31_9 : decode jdk_89_method_15_code 9 = .ok (.if_icmp .ge 7, 3) := by decide +kernel
theorem d31_12 : decode jdk_89_method_15_code 12 = .ok (.iconst 1, 1) := by decide +kernel
theorem d31_13 : decode jdk_89_method_15_code 13 = .ok (.goto 4, 3) := by decide +kernel
theorem d31_16 : decode jdk_89_method_15_code 16 = .ok (.iconst 0, 1) := by decide +kernel
theorem d31_17 : decode jdk_89_method_15_code 17 = .ok (.ireturn, 1) := by decide +kernel
theorem d32_0 : decode jdk_89_method_19_code 0 = .ok (.iload_n 0, 1) := by decide +kernel
theorem d32_1 : decode jdk_89_method_19_code 1 = .ok (.bipush 10, 2) := by decide +kernel
theorem d32_3 : decode jdk_89_method_19_code 3 = .ok (.ishl, 1) := by decide +kernel
theorem d32_4 : decode jdk_89_method_19_code 4 = .ok (.iload_n 1, 1) := by decide +kernel
theorem d32_5 : decode jdk_89_method_19_code 5 = .ok (.iadd, 1) := by decide +kernel
theorem d32_6 : decode jdk_89_method_19_code 6 = .ok (.ldc 85, 2) := by decide +kernel
theorem d32_8 : decode jdk_89_method_19_code 8 = .ok (.iadd, 1) := by decide +kernel
theorem d32_9 : decode jdk_89_method_19_code 9 = .ok (.ireturn, 1) := by decide +kernel
theorem pn_java_lang_StringUTF16 : plainName "java/lang/StringUTF16" = true := by first | (simp [plainName, overriddenIn]; done) | decide +kernel
theorem pd_I_R_I : parseMethodDescriptor "(I)I" = some ⟨[.int], some .int⟩ := by decide +kernel
theorem pd_I_R_AB : parseMethodDescriptor "(I)[B" = some ⟨[.int], some (.array .byte)⟩ := by decide +kernel
theorem pd_ABII_R_V : parseMethodDescriptor "([BII)V" = some ⟨[(.array .byte), .int, .int], none⟩ := by decide +kernel
theorem pd_ACIABII_R_I : parseMethodDescriptor "([CI[BII)I" = some ⟨[(.array .char), .int, (.array .byte), .int, .int], some .int⟩ := by decide +kernel
theorem pd_ACII_R_AB : parseMethodDescriptor "([CII)[B" = some ⟨[(.array .char), .int, .int], some (.array .byte)⟩ := by decide +kernel
theorem pd_ABI_R_C : parseMethodDescriptor "([BI)C" = some ⟨[(.array .byte), .int], some .char⟩ := by decide +kernel
theorem pn_java_lang_String : plainName "java/lang/String" = true := by first | (simp [plainName, overriddenIn]; done) | decide +kernel
theorem pd_ABI_R_B : parseMethodDescriptor "([BI)B" = some ⟨[(.array .byte), .int], some .byte⟩ := by decide +kernel
theorem pd_ACIILjava_lang_Void_R_V : parseMethodDescriptor "([CIILjava/lang/Void;)V" = some ⟨[(.array .char), .int, .int, (.object "java/lang/Void")], none⟩ := by decide +kernel
theorem pd__R_B : parseMethodDescriptor "()B" = some ⟨[], some .byte⟩ := by decide +kernel
theorem pn_jdk_internal_util_Preconditions : plainName "jdk/internal/util/Preconditions" = true := by first | (simp [plainName, overriddenIn]; done) | decide +kernel
theorem pd_IILjava_util_function_BiFunction_R_I : parseMethodDescriptor "(IILjava/util/function/BiFunction;)I" = some ⟨[.int, .int, (.object "java/util/function/BiFunction")], some .int⟩ := by decide +kernel
theorem pn_com_example_broker_broker_Utf8OrderComparePinLaw : plainName "com/example/broker/broker/Utf8OrderComparePinLaw" = true := by first | (simp [plainName, overriddenIn]; done) | decide +kernel
theorem pd_AC_R_V : parseMethodDescriptor "([C)V" = some ⟨[(.array .char)], none⟩ := by decide +kernel
theorem pn_java_lang_Character : plainName "java/lang/Character" = true := by first | (simp [plainName, overriddenIn]; done) | decide +kernel
theorem pn_java_lang_Integer : plainName "java/lang/Integer" = true := by first | (simp [plainName, overriddenIn]; done) | decide +kernel
theorem pd_ACII_R_I : parseMethodDescriptor "([CII)I" = some ⟨[(.array .char), .int, .int], some .int⟩ := by decide +kernel
theorem pd_C_R_Z : parseMethodDescriptor "(C)Z" = some ⟨[.char], some .boolean⟩ := by decide +kernel
theorem pd_CC_R_I : parseMethodDescriptor "(CC)I" = some ⟨[.char, .char], some .int⟩ := by decide +kernel
theorem pd_ABIIZ_R_I : parseMethodDescriptor "([BIIZ)I" = some ⟨[(.array .byte), .int, .int, .boolean], some .int⟩ := by decide +kernel
theorem pd__R_Z : parseMethodDescriptor "()Z" = some ⟨[], some .boolean⟩ := by decide +kernel
theorem pd_II_R_V : parseMethodDescriptor "(II)V" = some ⟨[.int, .int], none⟩ := by decide +kernel
theorem pd_ABII_R_I : parseMethodDescriptor "([BII)I" = some ⟨[(.array .byte), .int, .int], some .int⟩ := by decide +kernel
theorem pn_com_example_broker_broker_Utf8Order : plainName "com/example/broker/broker/Utf8Order" = true := by first | (simp [plainName, overriddenIn]; done) | decide +kernel
theorem pd__R_I : parseMethodDescriptor "()I" = some ⟨[], some .int⟩ := by decide +kernel
theorem pd_II_R_I : parseMethodDescriptor "(II)I" = some ⟨[.int, .int], some .int⟩ := by decide +kernel
theorem pd_CI_R_C : parseMethodDescriptor "(CI)C" = some ⟨[.char, .int], some .char⟩ := by decide +kernel
theorem pd_CCCI_R_Ljava_lang_String : parseMethodDescriptor "(CCCI)Ljava/lang/String;" = some ⟨[.char, .char, .char, .int], some (.object "java/lang/String")⟩ := by decide +kernel
theorem pd_CCCI_R_AI : parseMethodDescriptor "(CCCI)[I" = some ⟨[.char, .char, .char, .int], some (.array .int)⟩ := by decide +kernel
theorem pd_Ljava_lang_StringLjava_lang_String_R_I : parseMethodDescriptor "(Ljava/lang/String;Ljava/lang/String;)I" = some ⟨[(.object "java/lang/String"), (.object "java/lang/String")], some .int⟩ := by decide +kernel
def UST (Z : State) (zc : Int32) (fm : Value) : Prop := ¬ zc = 0 ∧ Sta Z Z.heap "java/lang/String" "COMPACT_STRINGS" "Z" (.int zc) ∧ Sta Z Z.heap "java/lang/StringUTF16" "$assertionsDisabled" "Z" (.int 1) ∧ Sta Z Z.heap "java/lang/StringUTF16" "HI_BYTE_SHIFT" "I" (.int 0) ∧ Sta Z Z.heap "java/lang/StringUTF16" "LO_BYTE_SHIFT" "I" (.int 8) ∧ fm.isRef = true ∧ Sta Z Z.heap "jdk/internal/util/Preconditions" "SIOOBE_FORMATTER" "Ljava/util/function/BiFunction;" fm
def QC5 (Z : State) (d : Addr) (kd : ClassId) (n : Nat) (f : Nat → Int32) (h0 : Heap) (v : Option Value) (h : Heap) (L : List Loc) : Prop := ∃ k, k ≤ n ∧ v = some (.int (Int32.ofNat k)) ∧ (∀ j, j < k → ¬ (255 : Int32) < f j) ∧ (k < n → (255 : Int32) < f k) ∧ W.Frw [d] h0.size L ∧ Keep h0 h [d] ∧ W.Arg Z h d kd .byte n (fun j => if j < k then StrChars.lo8 (f j) else 0)
theorem own_w5 (f : Nat → Int32) (i j : Nat) : W.upd (fun j => if j < i then StrChars.lo8 (f j) else 0) i (nar .byte (f i).toInt8.toInt32) j = if j < i + 1 then StrChars.lo8 (f j) else 0 := by
  unfold W.upd
  by_cases q : j = i
  · subst q; rw [if_pos rfl, if_pos (Nat.lt_succ_self _)]; exact W.nar8 (f j)
  · rw [if_neg q]
    show (if j < i then StrChars.lo8 (f j) else 0) = _
    by_cases r : j < i
    · rw [if_pos r, if_pos (Nat.lt_succ_of_lt r)]
    · rw [if_neg r, if_neg (by omega)]
theorem own_ks {f : Nat → Int32} {i : Nat} (hk : ∀ j, j < i → ¬ (255 : Int32) < f j) (hc : ¬ (255 : Int32) < f i) : ∀ j, j < i + 1 → ¬ (255 : Int32) < f j := fun j hj => by
  by_cases q : j = i
  · subst q; exact hc
  · exact hk j (by omega)
set_option maxRecDepth 65536 in
set_option maxHeartbeats 40000000 in
theorem c_cmp5 (l : Launch) (Z : State) (b d : Addr) (kb kd : ClassId) (n : Nat) (f : Nat → Int32) (h0 : Heap) (A : W.Arg Z h0 b kb .char n f) (D : W.Arg Z h0 d kd .byte n (fun _ => 0)) (hne : b ≠ d) : W.MetN l Z (⟨"java/lang/StringUTF16", "compress", "([CI[BII)I"⟩ : MethodName) jdk_52_method_21_code 7 ((Option.some Jvm.ClassFile.FieldType.int)) [] ({ frames := 0, cells := 0, slots := 0, locals := 0 } : Room) #[.ref b, .int 0, .ref d, .int 0, .int (Int32.ofNat n)]  h0 (QC5 Z d kd n f h0) := by
  refine W.MetN.mk (ls0 := #[.val (.ref b), .val (.int (0 : Int32)), .val (.ref d), .val (.int (0 : Int32)), .val (.int (Int32.ofNat n)), .unset, .unset]) [d] (plainFor_of_name pn_java_lang_StringUTF16) (fun m => by first | (simp [entryFrame, mkF, argsToLocals, Value.category]; done) | rfl) ?_
  intro p e s m below meth c s₁ hml hret hnm hlk P0
  show W.Go p.tables e below _ (s₁.setTop (mkF m 0 #[.val (.ref b), .val (.int (0 : Int32)), .val (.ref d), .val (.int (0 : Int32)), .val (.int (Int32.ofNat n)), .unset, .unset] []))
  have hn := A.small
  have loop : ∀ (r i : Nat), i + r = n → (∀ j, j < i → ¬ (255 : Int32) < f j) → ∀ (z6 : Slot), One z6 → ∀ (T1 : State) (L1 : List Loc) (h1 : Heap), W.Pos p l e ({ frames := 0, cells := 0, slots := 0, locals := 0 } : Room) s m #[.ref b, .int 0, .ref d, .int 0, .int (Int32.ofNat n)] below meth c jdk_52_method_21_code Z [] [d] h0 "java/lang/StringUTF16" s.vm T1 L1 0 0 h1 → W.Arg Z h1 d kd .byte n (fun j => if j < i then StrChars.lo8 (f j) else 0) → W.Go p.tables e below (W.GN s (QC5 Z d kd n f h0) ({ frames := 0, cells := 0, slots := 0, locals := 0 } : Room)) (T1.setTop (mkF m 3 #[.val (.ref b), .val (.int (Int32.ofNat i)), .val (.ref d), .val (.int (Int32.ofNat i)), .val (.int (Int32.ofNat n)), .val (.int (Int32.ofNat i)), z6] [])) := by
    intro r
    induction r with
    | zero =>
      intro i hi hk z6 hz T1 L1 h1 P1 D1
      obtain rfl : n = i := by omega
      refine W.g_iload (pc1 := 5) P1.q d15_3 rfl rfl ?_
      refine W.g_iload (pc1 := 7) P1.q d15_5 rfl rfl ?_
      refine W.g_cmpY (pc1 := 44) P1.q d15_7 (by decide) rfl (fun q => Nat.lt_irrefl _ ((W.lt32 hn hn).mp q)) ?_
      refine W.g_iload (pc1 := 46) P1.q d15_44 rfl rfl ?_
      exact P1.retIN hlk hret d15_46 (by decide) (by decide) ⟨n, Nat.le_refl _, rfl, hk, fun q => absurd q (Nat.lt_irrefl _), P1.fr, P1.keep, D1⟩
    | succ r ih =>
      intro i hi hk z6 hz T1 L1 h1 P1 D1
      have A1 := A.keep P1.keep (ninS hne nin0)
      refine W.g_iload (pc1 := 5) P1.q d15_3 rfl rfl ?_
      refine W.g_iload (pc1 := 7) P1.q d15_5 rfl rfl ?_
      refine W.g_cmpN (pc2 := 10) P1.q d15_7 rfl (fun q => q ((W.lt32 (by omega) hn).mpr (by omega))) ?_
      refine W.g_aloadN (pc1 := 11) P1.q d15_10 rfl rfl rfl ?_
      refine W.g_iloadN (pc1 := 12) P1.q d15_11 rfl rfl ?_
      refine P1.ldCg (pc1 := 13) A1 (i := i) (by omega) d15_12 rfl ?_
      refine W.g_istore (pc1 := 15) (ls2 := #[.val (.ref b), .val (.int (Int32.ofNat i)), .val (.ref d), .val (.int (Int32.ofNat i)), .val (.int (Int32.ofNat n)), .val (.int (Int32.ofNat i)), .val (.int (f i))]) P1.q d15_13 (W.stI rfl hz rfl) rfl ?_
      refine W.g_iload (pc1 := 17) P1.q d15_15 rfl rfl ?_
      refine W.g_sipush (pc1 := 20) (v := (255 : Int32)) P1.q d15_17 (by decide) rfl ?_
      refine W.g_cmp (pc1 := 26) (pc2 := 23) P1.q d15_20 (by decide) rfl rfl (fun (hc : ¬ (255 : Int32) < (f i)) => ?_) (fun (hc : ¬ (¬ (255 : Int32) < (f i))) => ?_)
      · refine W.g_aloadN (pc1 := 27) P1.q d15_26 rfl rfl rfl ?_
        refine W.g_iloadN (pc1 := 28) P1.q d15_27 rfl rfl ?_
        refine W.g_iload (pc1 := 30) P1.q d15_28 rfl rfl ?_
        refine W.g_i2b (pc1 := 31) P1.q d15_30 rfl ?_
        refine P1.stBg (pc1 := 32) D1 (i := i) (by omega) (Or.inl (List.mem_singleton.mpr rfl)) W.safe0 d15_31 rfl ?_
        intro T2 h2 P2 W2 V2
        refine W.g_iinc (pc1 := 35) (ls2 := #[.val (.ref b), .val (.int ((Int32.ofNat i) + Int32.ofInt 1)), .val (.ref d), .val (.int (Int32.ofNat i)), .val (.int (Int32.ofNat n)), .val (.int (Int32.ofNat i)), .val (.int (f i))]) P2.q d15_32 rfl rfl rfl ?_
        refine W.g_iinc (pc1 := 38) (ls2 := #[.val (.ref b), .val (.int ((Int32.ofNat i) + Int32.ofInt 1)), .val (.ref d), .val (.int ((Int32.ofNat i) + Int32.ofInt 1)), .val (.int (Int32.ofNat n)), .val (.int (Int32.ofNat i)), .val (.int (f i))]) P2.q d15_35 rfl rfl rfl ?_
        refine W.g_iinc (pc1 := 41) (ls2 := #[.val (.ref b), .val (.int ((Int32.ofNat i) + Int32.ofInt 1)), .val (.ref d), .val (.int ((Int32.ofNat i) + Int32.ofInt 1)), .val (.int (Int32.ofNat n)), .val (.int ((Int32.ofNat i) + Int32.ofInt 1)), .val (.int (f i))]) P2.q d15_38 rfl rfl rfl ?_
        refine W.g_goto (pc1 := 3) P2.q d15_41 (by decide) rfl ?_
        rw [W.succ32]
        exact ih (i + 1) (by omega) (own_ks hk hc) _ (Or.inr ⟨_, rfl, rfl⟩) T2 _ h2 P2 (V2.congr (fun j hj => own_w5 f i j))
      · refine W.g_iload (pc1 := 25) P1.q d15_23 rfl rfl ?_
        exact P1.retIN hlk hret d15_25 (by decide) (by decide) ⟨i, by omega, rfl, hk, fun _ => Decidable.byContradiction hc, P1.fr, P1.keep, D1⟩
  refine W.g_iconst (pc1 := 1) (v := (0 : Int32)) P0.q d15_0 (by decide) rfl ?_
  refine W.g_istore (pc1 := 3) (ls2 := #[.val (.ref b), .val (.int (0 : Int32)), .val (.ref d), .val (.int (0 : Int32)), .val (.int (Int32.ofNat n)), .val (.int (0 : Int32)), .unset]) P0.q d15_1 rfl rfl ?_
  exact loop n 0 (Nat.zero_add n) (fun j q => absurd q (Nat.not_lt_zero j)) .unset One.u s₁ [] h0 P0 (D.congr (fun j _ => (if_neg (Nat.not_lt_zero j)).symm))
set_option maxRecDepth 65536 in
set_option maxHeartbeats 40000000 in
theorem c_nbl (l : Launch) (Z : State) (a0 : Array Value) (hw : ∀ d ∈ tables_1, d.before a0 Z = true) (n : Nat) (hn : n < 1073741823) (h0 : Heap) : W.MetN l Z (⟨"java/lang/StringUTF16", "newBytesLength", "(I)I"⟩ : MethodName) jdk_52_method_3_code 1 ((Option.some Jvm.ClassFile.FieldType.int)) [] ({ frames := 0, cells := 0, slots := 0, locals := 0 } : Room) #[.int (Int32.ofNat n)]  h0 (W.Pure (some (.int (Int32.ofNat (2 * n)))) h0) := by
  refine W.MetN.mk (ls0 := #[.val (.int (Int32.ofNat n))]) [] (plainFor_of_name pn_java_lang_StringUTF16) (fun m => by first | (simp [entryFrame, mkF, argsToLocals, Value.category]; done) | rfl) ?_
  intro p e s m below meth c s₁ hml hret hnm hlk P0
  show W.Go p.tables e below _ (s₁.setTop (mkF m 0 #[.val (.int (Int32.ofNat n))] []))
  refine W.g_iloadN (pc1 := 1) P0.q d24_0 rfl rfl ?_
  refine W.g_ifY (pc1 := 12) P0.q d24_1 (by decide) rfl (W.nn32 (by omega)) ?_
  refine W.g_iloadN (pc1 := 13) P0.q d24_12 rfl rfl ?_
  refine P0.ldcI (pc1 := 15) (wd hw (k := 106) rfl) d24_13 rfl ?_
  refine W.g_cmpY (pc1 := 55) P0.q d24_15 (by decide) rfl ((W.lt32 (n := 1073741823) (by omega) (by decide)).mpr hn) ?_
  refine W.g_iloadN (pc1 := 56) P0.q d24_55 rfl rfl ?_
  refine W.g_iconst (pc1 := 57) (v := (1 : Int32)) P0.q d24_56 (by decide) rfl ?_
  refine W.g_ishl (pc1 := 58) P0.q d24_57 rfl ?_
  rw [W.shl1]
  exact P0.retIN hlk hret d24_58 (by decide) (by decide) ⟨rfl, rfl, rfl⟩
def QNB (Z : State) (n : Nat) (h0 : Heap) (v : Option Value) (h : Heap) (L : List Loc) : Prop := ∃ t kb, v = some (.ref t) ∧ W.Frw [] h0.size L ∧ Ext h0 h ∧ h0.size ≤ t ∧ W.Arg Z h t kb .byte (2 * n) (fun _ => 0)
set_option maxRecDepth 65536 in
set_option maxHeartbeats 40000000 in
theorem c_nbf (l : Launch) (Z : State) (a0 : Array Value) (hw : ∀ d ∈ tables_1, d.before a0 Z = true) (n : Nat) (hn : n ≤ 4) (h0 : Heap) : W.MetN l Z (⟨"java/lang/StringUTF16", "newBytesFor", "(I)[B"⟩ : MethodName) jdk_52_method_2_code 1 ((Option.some (Jvm.ClassFile.FieldType.array Jvm.ClassFile.FieldType.byte))) [] ({ frames := 1, cells := 1, slots := 8, locals := 12 } : Room) #[.int (Int32.ofNat n)]  h0 (QNB Z n h0) := by
  refine W.MetN.mk (ls0 := #[.val (.int (Int32.ofNat n))]) [] (plainFor_of_name pn_java_lang_StringUTF16) (fun m => by first | (simp [entryFrame, mkF, argsToLocals, Value.category]; done) | rfl) ?_
  intro p e s m below meth c s₁ hml hret hnm hlk P0
  show W.Go p.tables e below _ (s₁.setTop (mkF m 0 #[.val (.int (Int32.ofNat n))] []))
  refine W.g_iloadN (pc1 := 1) P0.q d23_0 rfl rfl ?_
  refine P0.callS (pc1 := 4) (wd hw (k := 103) rfl) (wd hw (k := 104) rfl) (wd hw (k := 65) rfl) (wd hw (k := 105) rfl) (by decide) (W.MetN.pay (W := 0) (c_nbl l Z a0 hw n (by omega) h0) P0 (wd hw (k := 105) rfl) (wd hw (k := 65) rfl) (by decide) (by decide)) (argsL := [(.int (Int32.ofNat n))]) (st0 := []) (lenOf pd_I_R_I rfl) rfl rfl (Nat.le_of_eq rfl) (by rw [hml]; rfl) (by decide) (by decide) (W.Pure.ok P0.chv) d23_1 rfl ?_
  intro v101 T101 h101 L101 q101 P101
  obtain ⟨rfl, rfl, rfl⟩ := q101
  show W.Go p.tables e below _ (T101.setTop (mkF m 4 #[.val (.int (Int32.ofNat n))] [(.int (Int32.ofNat (2 * n)))]))
  refine P101.newP (pc1 := 6) (cap := 8) (wd hw (k := 23) rfl) (W.nn32 (by omega)) (by rw [W.n32 (by omega)]; omega) (by decide) (by decide) (by decide) d23_4 rfl ?_
  intro T102 h102 x102 k102 g102 P102 E102 V102
  exact P102.retAN hlk hret rfl rfl rfl d23_6 (by decide) (by decide) ⟨_, _, rfl, P102.fr, P102.ext0, Nat.le_of_eq g102.symm, W.Arg.new (by omega) V102⟩
def QPC (Z : State) (t : Addr) (kb : ClassId) (N : Nat) (g : Nat → Int32) (h0 : Heap) (v : Option Value) (h : Heap) (L : List Loc) : Prop := v = none ∧ W.Frw [t] h0.size L ∧ Keep h0 h [t] ∧ W.Arg Z h t kb .byte N g
set_option maxRecDepth 65536 in
set_option maxHeartbeats 40000000 in
theorem c_put (l : Launch) (Z : State) (a0 : Array Value) (hw : ∀ d ∈ tables_1, d.before a0 Z = true) (t : Addr) (kb : ClassId) (N i : Nat) (g : Nat → Int32) (ch : Int32) (hi : 2 * i + 1 < N) (h0 : Heap) (V : W.Arg Z h0 t kb .byte N g) (EZ : Ext Z.heap h0) (ht : Z.heap.size ≤ t) (zc : Int32) (fm : Value) (US : UST Z zc fm) : W.MetN l Z (⟨"java/lang/StringUTF16", "putChar", "([BII)V"⟩ : MethodName) jdk_52_method_4_code 3 ((Option.none : Option Jvm.ClassFile.FieldType)) [] ({ frames := 0, cells := 0, slots := 0, locals := 0 } : Room) #[.ref t, .int (Int32.ofNat i), .int ch]  h0 (QPC Z t kb N (W.upd (W.upd g (2 * i) (StrChars.lo8 ch)) (2 * i + 1) (StrChars.hi8 ch)) h0) := by
  refine W.MetN.mk (ls0 := #[.val (.ref t), .val (.int (Int32.ofNat i)), .val (.int ch)]) [t] (plainFor_of_name pn_java_lang_StringUTF16) (fun m => by first | (simp [entryFrame, mkF, argsToLocals, Value.category]; done) | rfl) ?_
  intro p e s m below meth c s₁ hml hret hnm hlk P0
  show W.Go p.tables e below _ (s₁.setTop (mkF m 0 #[.val (.ref t), .val (.int (Int32.ofNat i)), .val (.int ch)] []))
  have hN := V.small
  refine P0.getS (pc1 := 3) (wd hw (k := 110) rfl) Via.refl (US.2.2.1.ext (P0.extZ EZ (allS ht all0))) d25_0 rfl ?_
  intro T103 P103
  refine W.g_ifY (pc1 := 28) P103.q d25_3 (by decide) rfl (by decide) ?_
  refine W.g_iloadN (pc1 := 29) P103.q d25_28 rfl rfl ?_
  refine W.g_iconst (pc1 := 30) (v := (1 : Int32)) P103.q d25_29 (by decide) rfl ?_
  refine W.g_ishl (pc1 := 31) P103.q d25_30 rfl ?_
  rw [W.shl1]
  refine W.g_istoreN (pc1 := 32) (ls2 := #[.val (.ref t), .val (.int (Int32.ofNat (2 * i))), .val (.int ch)]) P103.q d25_31 rfl rfl ?_
  refine W.g_aloadN (pc1 := 33) P103.q d25_32 rfl rfl rfl ?_
  refine W.g_iloadN (pc1 := 34) P103.q d25_33 rfl rfl ?_
  refine W.g_iinc (pc1 := 37) (ls2 := #[.val (.ref t), .val (.int ((Int32.ofNat (2 * i)) + Int32.ofInt 1)), .val (.int ch)]) P103.q d25_34 rfl rfl rfl ?_
  refine W.g_iloadN (pc1 := 38) P103.q d25_37 rfl rfl ?_
  refine P103.getS (pc1 := 41) (wd hw (k := 111) rfl) Via.refl (US.2.2.2.1.ext (P103.extZ EZ (allS ht all0))) d25_38 rfl ?_
  intro T104 P104
  refine W.g_ishr (pc1 := 42) P104.q d25_41 rfl ?_
  refine W.g_i2b (pc1 := 43) P104.q d25_42 rfl ?_
  rw [StrChars.shr0, W.succ32]
  refine P104.stBg (pc1 := 44) V (i := 2 * i) (by omega) (Or.inl (List.mem_singleton.mpr rfl)) W.safe0 d25_43 rfl ?_
  intro T2 h2 P2 W2 V2
  refine W.g_aloadN (pc1 := 45) P2.q d25_44 rfl rfl rfl ?_
  refine W.g_iloadN (pc1 := 46) P2.q d25_45 rfl rfl ?_
  refine W.g_iloadN (pc1 := 47) P2.q d25_46 rfl rfl ?_
  refine P2.getS (pc1 := 50) (wd hw (k := 112) rfl) Via.refl (US.2.2.2.2.1.ext (P2.extZ EZ (allS ht all0))) d25_47 rfl ?_
  intro T105 P105
  refine W.g_ishr (pc1 := 51) P105.q d25_50 rfl ?_
  refine W.g_i2b (pc1 := 52) P105.q d25_51 rfl ?_
  refine P105.stBg (pc1 := 53) V2 (i := 2 * i + 1) (by omega) (Or.inl (List.mem_singleton.mpr rfl)) W.safe0 d25_52 rfl ?_
  intro T3 h3 P3 W3 V3
  have V4 : W.Arg Z h3 t kb .byte N (W.upd (W.upd g (2 * i) (StrChars.lo8 ch)) (2 * i + 1) (StrChars.hi8 ch)) := by
    have e1 : nar .byte ch.toInt8.toInt32 = StrChars.lo8 ch := W.nar8 ch
    have e2 : nar .byte (ch >>> ((8 : Int32) &&& 31)).toInt8.toInt32 = StrChars.hi8 ch := W.nar8 _
    rw [e1, e2] at V3; exact V3
  exact P3.retN hlk hret d25_53 (by decide) (by decide) ⟨rfl, P3.fr, P3.keep, V4⟩
def own_enc (f : Nat → Int32) (j : Nat) : Int32 := if j % 2 = 0 then StrChars.lo8 (f (j / 2)) else StrChars.hi8 (f (j / 2))
theorem own_wt (f : Nat → Int32) (i j : Nat) : W.upd (W.upd (fun j => if j < 2 * i then own_enc f j else 0) (2 * i) (StrChars.lo8 (f i))) (2 * i + 1) (StrChars.hi8 (f i)) j = if j < 2 * (i + 1) then own_enc f j else 0 := by
  unfold W.upd own_enc
  by_cases q : j = 2 * i + 1
  · subst q
    have e1 : ¬ (2 * i + 1) % 2 = 0 := by omega
    have e2 : (2 * i + 1) / 2 = i := by omega
    rw [if_pos rfl, if_pos (by omega), if_neg e1, e2]
  · rw [if_neg q]
    by_cases r : j = 2 * i
    · subst r
      have e1 : (2 * i) % 2 = 0 := by omega
      have e2 : (2 * i) / 2 = i := by omega
      rw [if_pos rfl, if_pos (by omega), if_pos e1, e2]
    · rw [if_neg r]
      show (if j < 2 * i then (if j % 2 = 0 then StrChars.lo8 (f (j / 2)) else StrChars.hi8 (f (j / 2))) else 0) = _
      by_cases t : j < 2 * i
      · rw [if_pos t, if_pos (show j < 2 * (i + 1) by omega)]
      · rw [if_neg t, if_neg (by omega)]
def QTB (Z : State) (n : Nat) (f : Nat → Int32) (h0 : Heap) (v : Option Value) (h : Heap) (L : List Loc) : Prop := ∃ t kb, v = some (.ref t) ∧ W.Frw [] h0.size L ∧ Ext h0 h ∧ h0.size ≤ t ∧ W.Arg Z h t kb .byte (2 * n) (own_enc f)
set_option maxRecDepth 65536 in
set_option maxHeartbeats 40000000 in
theorem c_tb (l : Launch) (Z : State) (a0 : Array Value) (hw : ∀ d ∈ tables_1, d.before a0 Z = true) (b : Addr) (kb : ClassId) (n : Nat) (f : Nat → Int32) (hcap : n ≤ 4) (h0 : Heap) (A : W.Arg Z h0 b kb .char n f) (EZ : Ext Z.heap h0) (zc : Int32) (fm : Value) (US : UST Z zc fm) : W.MetN l Z (⟨"java/lang/StringUTF16", "toBytes", "([CII)[B"⟩ : MethodName) jdk_52_method_14_code 5 ((Option.some (Jvm.ClassFile.FieldType.array Jvm.ClassFile.FieldType.byte))) [] ({ frames := 2, cells := 1, slots := 8, locals := 24 } : Room) #[.ref b, .int 0, .int (Int32.ofNat n)]  h0 (QTB Z n f h0) := by
  refine W.MetN.mk (ls0 := #[.val (.ref b), .val (.int (0 : Int32)), .val (.int (Int32.ofNat n)), .unset, .unset]) [] (plainFor_of_name pn_java_lang_StringUTF16) (fun m => by first | (simp [entryFrame, mkF, argsToLocals, Value.category]; done) | rfl) ?_
  intro p e s m below meth c s₁ hml hret hnm hlk P0
  show W.Go p.tables e below _ (s₁.setTop (mkF m 0 #[.val (.ref b), .val (.int (0 : Int32)), .val (.int (Int32.ofNat n)), .unset, .unset] []))
  refine W.g_iloadN (pc1 := 1) P0.q d22_0 rfl rfl ?_
  refine P0.callS (pc1 := 4) (wd hw (k := 100) rfl) (wd hw (k := 101) rfl) (wd hw (k := 65) rfl) (wd hw (k := 102) rfl) (by decide) (W.MetN.pay (W := 0) (c_nbf l Z a0 hw n hcap h0) P0 (wd hw (k := 102) rfl) (wd hw (k := 65) rfl) (by decide) (by decide)) (argsL := [(.int (Int32.ofNat n))]) (st0 := []) (lenOf pd_I_R_AB rfl) rfl rfl (Nat.le_of_eq rfl) (by rw [hml]; rfl) (by decide) (by decide) (fun _ _ _ q => by obtain ⟨_, _, _, q2, q3, _⟩ := q; exact ⟨q2, CHr.keep (W.Ext.toKeep q3 []) sf0 P0.chv⟩) d22_1 rfl ?_
  intro v106 T106 h106 L106 q106 P106
  obtain ⟨t, kt, rfl, f106, E106, gt, V106⟩ := q106
  show W.Go p.tables e below _ (T106.setTop (mkF m 4 #[.val (.ref b), .val (.int (0 : Int32)), .val (.int (Int32.ofNat n)), .unset, .unset] [(.ref t)]))
  have hlt : b ≠ t := fun q => Nat.not_lt.mpr gt (q ▸ A.lt)
  have loop : ∀ (r i : Nat), i + r = n → ∀ (T1 : State) (L1 : List Loc) (h1 : Heap), W.Pos p l e ({ frames := 2, cells := 1, slots := 8, locals := 24 } : Room) s m #[.ref b, .int 0, .int (Int32.ofNat n)] below meth c jdk_52_method_14_code Z [] [] h0 "java/lang/StringUTF16" s.vm T1 L1 1 8 h1 → W.Arg Z h1 t kt .byte (2 * n) (fun j => if j < 2 * i then own_enc f j else 0) → W.Go p.tables e below (W.GN s (QTB Z n f h0) ({ frames := 2, cells := 1, slots := 8, locals := 24 } : Room)) (T1.setTop (mkF m 8 #[.val (.ref b), .val (.int (Int32.ofNat i)), .val (.int (Int32.ofNat n)), .val (.ref t), .val (.int (Int32.ofNat i))] [])) := by
    intro r
    induction r with
    | zero =>
      intro i hi T1 L1 h1 P1 D1
      obtain rfl : n = i := by omega
      refine W.g_iload (pc1 := 10) P1.q d22_8 rfl rfl ?_
      refine W.g_iloadN (pc1 := 11) P1.q d22_10 rfl rfl ?_
      refine W.g_cmpY (pc1 := 32) P1.q d22_11 (by decide) rfl (fun q => Nat.lt_irrefl _ ((W.lt32 (by omega) (by omega)).mp q)) ?_
      refine W.g_aloadN (pc1 := 33) P1.q d22_32 rfl rfl rfl ?_
      exact P1.retAN hlk hret rfl rfl rfl d22_33 (by decide) (by decide) ⟨t, kt, rfl, P1.fr, P1.ext0, gt, D1.congr (fun j hj => if_pos hj)⟩
    | succ r ih =>
      intro i hi T1 L1 h1 P1 D1
      have A1 := A.ext P1.ext0
      refine W.g_iload (pc1 := 10) P1.q d22_8 rfl rfl ?_
      refine W.g_iloadN (pc1 := 11) P1.q d22_10 rfl rfl ?_
      refine W.g_cmpN (pc2 := 14) P1.q d22_11 rfl (fun q => q ((W.lt32 (by omega) (by omega)).mpr (by omega))) ?_
      refine W.g_aloadN (pc1 := 15) P1.q d22_14 rfl rfl rfl ?_
      refine W.g_iload (pc1 := 17) P1.q d22_15 rfl rfl ?_
      refine W.g_aloadN (pc1 := 18) P1.q d22_17 rfl rfl rfl ?_
      refine W.g_iloadN (pc1 := 19) P1.q d22_18 rfl rfl ?_
      refine P1.ldCg (pc1 := 20) A1 (i := i) (by omega) d22_19 rfl ?_
      refine P1.callS (pc1 := 23) (wd hw (k := 107) rfl) (wd hw (k := 108) rfl) (wd hw (k := 65) rfl) (wd hw (k := 109) rfl) (by decide) (W.MetN.pay (W := 0) (c_put l Z a0 hw t kt (2 * n) i _ (f i) (by omega) h1 D1 (P1.extZ EZ all0) (Nat.le_trans EZ.1 gt) zc fm US) P1 (wd hw (k := 109) rfl) (wd hw (k := 65) rfl) (by decide) (by decide)) (argsL := [(.ref t), (.int (Int32.ofNat i)), (.int (f i))]) (st0 := []) (lenOf pd_ABII_R_V rfl) rfl rfl (Nat.le_of_eq rfl) (by rw [hml]; rfl) (by decide) (by decide) (fun _ _ _ q => ⟨q.2.1.up P1.sz (allS (Or.inr gt) all0), CHr.keep q.2.2.1 (sfS W.safe0 sf0) P1.chv⟩) d22_20 rfl ?_
      intro v107 T107 h107 L107 q107 P107
      obtain ⟨rfl, f107, K107, V107⟩ := q107
      show W.Go p.tables e below _ (T107.setTop (mkF m 23 #[.val (.ref b), .val (.int (Int32.ofNat i)), .val (.int (Int32.ofNat n)), .val (.ref t), .val (.int (Int32.ofNat i))] []))
      refine W.g_iinc (pc1 := 26) (ls2 := #[.val (.ref b), .val (.int ((Int32.ofNat i) + Int32.ofInt 1)), .val (.int (Int32.ofNat n)), .val (.ref t), .val (.int (Int32.ofNat i))]) P107.q d22_23 rfl rfl rfl ?_
      refine W.g_iinc (pc1 := 29) (ls2 := #[.val (.ref b), .val (.int ((Int32.ofNat i) + Int32.ofInt 1)), .val (.int (Int32.ofNat n)), .val (.ref t), .val (.int ((Int32.ofNat i) + Int32.ofInt 1))]) P107.q d22_26 rfl rfl rfl ?_
      refine W.g_goto (pc1 := 8) P107.q d22_29 (by decide) rfl ?_
      rw [W.succ32]
      exact ih (i + 1) (by omega) _ _ _ P107 (V107.congr (fun j hj => own_wt f i j))
  refine W.g_astoreN (pc1 := 5) (ls2 := #[.val (.ref b), .val (.int (0 : Int32)), .val (.int (Int32.ofNat n)), .val (.ref t), .unset]) P106.q d22_4 rfl rfl rfl ?_
  refine W.g_iconst (pc1 := 6) (v := (0 : Int32)) P106.q d22_5 (by decide) rfl ?_
  refine W.g_istore (pc1 := 8) (ls2 := #[.val (.ref b), .val (.int (0 : Int32)), .val (.int (Int32.ofNat n)), .val (.ref t), .val (.int (0 : Int32))]) P106.q d22_6 rfl rfl ?_
  exact loop n 0 (Nat.zero_add n) _ _ _ P106 (V106.congr (fun j _ => (if_neg (Nat.not_lt_zero j)).symm))
theorem own_narc {ch : Int32} (hb : ¬ ch < 0 ∧ ¬ (65535 : Int32) < ch) : nar .char ch = ch := by
  have q := StrChars.narrow_ch hb.1 hb.2
  have e : narrow .char (.int ch) = .int (nar .char ch) := rfl
  rw [e] at q; exact Value.int.inj q
set_option maxRecDepth 65536 in
set_option maxHeartbeats 40000000 in
theorem c_getc (l : Launch) (Z : State) (a0 : Array Value) (hw : ∀ d ∈ tables_1, d.before a0 Z = true) (t : Addr) (kb : ClassId) (N i : Nat) (g : Nat → Int32) (ch : Int32) (hi : 2 * i + 1 < N) (q1 : g (2 * i) = StrChars.lo8 ch) (q2 : g (2 * i + 1) = StrChars.hi8 ch) (hb : ¬ ch < 0 ∧ ¬ (65535 : Int32) < ch) (h0 : Heap) (V : W.Arg Z h0 t kb .byte N g) (EZ : Ext Z.heap h0) (zc : Int32) (fm : Value) (US : UST Z zc fm) : W.MetN l Z (⟨"java/lang/StringUTF16", "getChar", "([BI)C"⟩ : MethodName) jdk_52_method_5_code 2 ((Option.some Jvm.ClassFile.FieldType.char)) [] ({ frames := 0, cells := 0, slots := 0, locals := 0 } : Room) #[.ref t, .int (Int32.ofNat i)]  h0 (W.Pure (some (.int ch)) h0) := by
  refine W.MetN.mk (ls0 := #[.val (.ref t), .val (.int (Int32.ofNat i))]) [] (plainFor_of_name pn_java_lang_StringUTF16) (fun m => by first | (simp [entryFrame, mkF, argsToLocals, Value.category]; done) | rfl) ?_
  intro p e s m below meth c s₁ hml hret hnm hlk P0
  show W.Go p.tables e below _ (s₁.setTop (mkF m 0 #[.val (.ref t), .val (.int (Int32.ofNat i))] []))
  have hN := V.small
  refine P0.getS (pc1 := 3) (wd hw (k := 110) rfl) Via.refl (US.2.2.1.ext (P0.extZ EZ all0)) d26_0 rfl ?_
  intro T108 P108
  refine W.g_ifY (pc1 := 28) P108.q d26_3 (by decide) rfl (by decide) ?_
  refine W.g_iloadN (pc1 := 29) P108.q d26_28 rfl rfl ?_
  refine W.g_iconst (pc1 := 30) (v := (1 : Int32)) P108.q d26_29 (by decide) rfl ?_
  refine W.g_ishl (pc1 := 31) P108.q d26_30 rfl ?_
  rw [W.shl1]
  refine W.g_istoreN (pc1 := 32) (ls2 := #[.val (.ref t), .val (.int (Int32.ofNat (2 * i)))]) P108.q d26_31 rfl rfl ?_
  refine W.g_aloadN (pc1 := 33) P108.q d26_32 rfl rfl rfl ?_
  refine W.g_iloadN (pc1 := 34) P108.q d26_33 rfl rfl ?_
  refine W.g_iinc (pc1 := 37) (ls2 := #[.val (.ref t), .val (.int ((Int32.ofNat (2 * i)) + Int32.ofInt 1))]) P108.q d26_34 rfl rfl rfl ?_
  rw [W.succ32]
  refine P108.ldBg (pc1 := 38) V (i := 2 * i) (by omega) d26_37 rfl ?_
  refine W.g_sipush (pc1 := 41) (v := (255 : Int32)) P108.q d26_38 (by decide) rfl ?_
  refine W.g_iand (pc1 := 42) P108.q d26_41 rfl ?_
  refine P108.getS (pc1 := 45) (wd hw (k := 111) rfl) Via.refl (US.2.2.2.1.ext (P108.extZ EZ all0)) d26_42 rfl ?_
  intro T109 P109
  refine W.g_ishl (pc1 := 46) P109.q d26_45 rfl ?_
  refine W.g_aloadN (pc1 := 47) P109.q d26_46 rfl rfl rfl ?_
  refine W.g_iloadN (pc1 := 48) P109.q d26_47 rfl rfl ?_
  refine P109.ldBg (pc1 := 49) V (i := 2 * i + 1) (by omega) d26_48 rfl ?_
  refine W.g_sipush (pc1 := 52) (v := (255 : Int32)) P109.q d26_49 (by decide) rfl ?_
  refine W.g_iand (pc1 := 53) P109.q d26_52 rfl ?_
  refine P109.getS (pc1 := 56) (wd hw (k := 112) rfl) Via.refl (US.2.2.2.2.1.ext (P109.extZ EZ all0)) d26_53 rfl ?_
  intro T110 P110
  refine W.g_ishl (pc1 := 57) P110.q d26_56 rfl ?_
  refine W.g_ior (pc1 := 58) P110.q d26_57 rfl ?_
  refine W.g_i2c (pc1 := 59) P110.q d26_58 rfl ?_
  rw [q1, q2]
  show W.Go p.tables e below _ (T110.setTop (mkF m 59 #[.val (.ref t), .val (.int (Int32.ofNat (2 * i + 1)))] [.int (StrChars.pairCh (StrChars.lo8 ch) (StrChars.hi8 ch))]))
  rw [StrChars.pair_says hb.1 hb.2]
  exact P110.retVN hlk hret (Or.inr (Or.inr (Or.inl rfl))) d26_59 (by decide) (by decide) ⟨by rw [own_narc hb], rfl, rfl⟩
def QC3 (Z : State) (n : Nat) (f : Nat → Int32) (h0 : Heap) (v : Option Value) (h : Heap) (L : List Loc) : Prop := ∃ t kb cd N g, v = some (.ref t) ∧ W.Frw [] h0.size L ∧ Ext h0 h ∧ h0.size ≤ t ∧ W.Arg Z h t kb .byte N g ∧ W.Cdd n f cd N g
theorem own_enc0 (f : Nat → Int32) (i : Nat) : own_enc f (2 * i) = StrChars.lo8 (f i) := by
  have e1 : (2 * i) % 2 = 0 := by omega
  have e2 : (2 * i) / 2 = i := by omega
  rw [own_enc, if_pos e1, e2]
theorem own_enc1 (f : Nat → Int32) (i : Nat) : own_enc f (2 * i + 1) = StrChars.hi8 (f i) := by
  have e1 : ¬ (2 * i + 1) % 2 = 0 := by omega
  have e2 : (2 * i + 1) / 2 = i := by omega
  rw [own_enc, if_neg e1, e2]
set_option maxRecDepth 65536 in
set_option maxHeartbeats 40000000 in
theorem c_cmp3 (l : Launch) (Z : State) (a0 : Array Value) (hw : ∀ d ∈ tables_1, d.before a0 Z = true) (b : Addr) (kb : ClassId) (n : Nat) (f : Nat → Int32) (hcap : n ≤ 4) (hb : ∀ i, i < n → ¬ f i < 0 ∧ ¬ (65535 : Int32) < f i) (h0 : Heap) (A : W.Arg Z h0 b kb .char n f) (EZ : Ext Z.heap h0) (zc : Int32) (fm : Value) (US : UST Z zc fm) : W.MetN l Z (⟨"java/lang/StringUTF16", "compress", "([CII)[B"⟩ : MethodName) jdk_52_method_16_code 6 ((Option.some (Jvm.ClassFile.FieldType.array Jvm.ClassFile.FieldType.byte))) [] ({ frames := 3, cells := 2, slots := 12, locals := 40 } : Room) #[.ref b, .int 0, .int (Int32.ofNat n)]  h0 (QC3 Z n f h0) := by
  refine W.MetN.mk (ls0 := #[.val (.ref b), .val (.int (0 : Int32)), .val (.int (Int32.ofNat n)), .unset, .unset, .unset]) [] (plainFor_of_name pn_java_lang_StringUTF16) (fun m => by first | (simp [entryFrame, mkF, argsToLocals, Value.category]; done) | rfl) ?_
  intro p e s m below meth c s₁ hml hret hnm hlk P0
  show W.Go p.tables e below _ (s₁.setTop (mkF m 0 #[.val (.ref b), .val (.int (0 : Int32)), .val (.int (Int32.ofNat n)), .unset, .unset, .unset] []))
  refine W.g_iloadN (pc1 := 1) P0.q d14_0 rfl rfl ?_
  refine P0.newP (pc1 := 3) (cap := 4) (wd hw (k := 23) rfl) (W.nn32 (by omega)) (by rw [W.n32 (by omega)]; exact hcap) (by decide) (by decide) (by decide) d14_1 rfl ?_
  intro T111 h111 x111 k111 g111 P111 E111 V111
  refine W.g_astoreN (pc1 := 4) (ls2 := #[.val (.ref b), .val (.int (0 : Int32)), .val (.int (Int32.ofNat n)), .val (.ref x111), .unset, .unset]) P111.q d14_3 rfl rfl rfl ?_
  refine W.g_aloadN (pc1 := 5) P111.q d14_4 rfl rfl rfl ?_
  refine W.g_iloadN (pc1 := 6) P111.q d14_5 rfl rfl ?_
  refine W.g_aloadN (pc1 := 7) P111.q d14_6 rfl rfl rfl ?_
  refine W.g_iconst (pc1 := 8) (v := (0 : Int32)) P111.q d14_7 (by decide) rfl ?_
  refine W.g_iloadN (pc1 := 9) P111.q d14_8 rfl rfl ?_
  refine P111.callS (pc1 := 12) (wd hw (k := 67) rfl) (wd hw (k := 68) rfl) (wd hw (k := 65) rfl) (wd hw (k := 69) rfl) (by decide) (W.MetN.pay (W := 0) (c_cmp5 l Z b x111 kb k111 n f h111 (A.ext E111) (W.Arg.new (by omega) V111) (fun q => Nat.not_lt.mpr (Nat.le_of_eq g111.symm) (q ▸ A.lt))) P111 (wd hw (k := 69) rfl) (wd hw (k := 65) rfl) (by decide) (by decide)) (argsL := [(.ref b), (.int (0 : Int32)), (.ref x111), (.int (0 : Int32)), (.int (Int32.ofNat n))]) (st0 := []) (lenOf pd_ACIABII_R_I rfl) rfl rfl (Nat.le_of_eq rfl) (by rw [hml]; rfl) (by decide) (by decide) (fun _ _ _ q => by obtain ⟨_, _, _, _, _, q5, q6, _⟩ := q; exact ⟨q5.up P111.sz (allS (Or.inr (Nat.le_of_eq g111.symm)) all0), CHr.keep q6 (sfS W.safe0 sf0) P111.chv⟩) d14_9 rfl ?_
  intro v112 T112 h112 L112 q112 P112
  obtain ⟨kk, hkn, rfl, hk1, hk2, f112, K112, V112⟩ := q112
  show W.Go p.tables e below _ (T112.setTop (mkF m 12 #[.val (.ref b), .val (.int (0 : Int32)), .val (.int (Int32.ofNat n)), .val (.ref x111), .unset, .unset] [(.int (Int32.ofNat kk))]))
  refine W.g_istore (pc1 := 14) (ls2 := #[.val (.ref b), .val (.int (0 : Int32)), .val (.int (Int32.ofNat n)), .val (.ref x111), .val (.int (Int32.ofNat kk)), .unset]) P112.q d14_12 rfl rfl ?_
  refine W.g_iload (pc1 := 16) P112.q d14_14 rfl rfl ?_
  refine W.g_iloadN (pc1 := 17) P112.q d14_16 rfl rfl ?_
  refine W.g_cmp (pc1 := 57) (pc2 := 20) P112.q d14_17 (by decide) rfl rfl (fun (hc : (Int32.ofNat kk) = (Int32.ofNat n)) => ?_) (fun (hc : ¬ ((Int32.ofNat kk) = (Int32.ofNat n))) => ?_)
  · refine W.g_aloadN (pc1 := 58) P112.q d14_57 rfl rfl rfl ?_
    have hkk : kk = n := (W.eq32 (by omega) (by omega)).mp hc
    exact P112.retAN hlk hret rfl rfl rfl d14_58 (by decide) (by decide) ⟨x111, k111, 0, n, _, rfl, P112.fr, P112.ext0, Nat.le_of_eq g111.symm, V112, Or.inl ⟨rfl, rfl, fun i hi => ⟨if_pos (by omega), hk1 i (by omega)⟩⟩⟩
  · have hkk : kk < n := by rcases Nat.lt_or_ge kk n with q | q; exact q; exact absurd ((W.eq32 (by omega) (by omega)).mpr (by omega)) hc
    refine W.g_aloadN (pc1 := 21) P112.q d14_20 rfl rfl rfl ?_
    refine W.g_iloadN (pc1 := 22) P112.q d14_21 rfl rfl ?_
    refine W.g_iloadN (pc1 := 23) P112.q d14_22 rfl rfl ?_
    refine P112.callS (pc1 := 26) (wd hw (k := 97) rfl) (wd hw (k := 98) rfl) (wd hw (k := 65) rfl) (wd hw (k := 99) rfl) (by decide) (W.MetN.pay (W := 0) (c_tb l Z a0 hw b kb n f hcap h112 (A.ext P112.ext0) (P112.extZ EZ all0) zc fm US) P112 (wd hw (k := 99) rfl) (wd hw (k := 65) rfl) (by decide) (by decide)) (argsL := [(.ref b), (.int (0 : Int32)), (.int (Int32.ofNat n))]) (st0 := []) (lenOf pd_ACII_R_AB rfl) rfl rfl (Nat.le_of_eq rfl) (by rw [hml]; rfl) (by decide) (by decide) (fun _ _ _ q => by obtain ⟨_, _, _, q2, q3, _⟩ := q; exact ⟨q2.up P112.sz all0, CHr.keep (W.Ext.toKeep q3 []) sf0 P112.chv⟩) d14_23 rfl ?_
    intro v113 T113 h113 L113 q113 P113
    obtain ⟨t, kt, rfl, f113, E113, gt, V113⟩ := q113
    show W.Go p.tables e below _ (T113.setTop (mkF m 26 #[.val (.ref b), .val (.int (0 : Int32)), .val (.int (Int32.ofNat n)), .val (.ref x111), .val (.int (Int32.ofNat kk)), .unset] [(.ref t)]))
    refine W.g_astore (pc1 := 28) (ls2 := #[.val (.ref b), .val (.int (0 : Int32)), .val (.int (Int32.ofNat n)), .val (.ref x111), .val (.int (Int32.ofNat kk)), .val (.ref t)]) P113.q d14_26 rfl rfl rfl ?_
    refine W.g_aload (pc1 := 30) P113.q d14_28 rfl rfl rfl ?_
    refine W.g_iload (pc1 := 32) P113.q d14_30 rfl rfl ?_
    refine P113.callS (pc1 := 35) (wd hw (k := 113) rfl) (wd hw (k := 114) rfl) (wd hw (k := 65) rfl) (wd hw (k := 115) rfl) (by decide) (W.MetN.pay (W := 0) (c_getc l Z a0 hw t kt (2 * n) kk _ (f kk) (by omega) (own_enc0 f kk) (own_enc1 f kk) (hb kk hkk) h113 V113 (P113.extZ EZ all0) zc fm US) P113 (wd hw (k := 115) rfl) (wd hw (k := 65) rfl) (by decide) (by decide)) (argsL := [(.ref t), (.int (Int32.ofNat kk))]) (st0 := []) (lenOf pd_ABI_R_C rfl) rfl rfl (Nat.le_of_eq rfl) (by rw [hml]; rfl) (by decide) (by decide) (W.Pure.ok P113.chv) d14_32 rfl ?_
    intro v114 T114 h114 L114 q114 P114
    obtain ⟨rfl, rfl, rfl⟩ := q114
    show W.Go p.tables e below _ (T114.setTop (mkF m 35 #[.val (.ref b), .val (.int (0 : Int32)), .val (.int (Int32.ofNat n)), .val (.ref x111), .val (.int (Int32.ofNat kk)), .val (.ref t)] [(.int (f kk))]))
    refine W.g_sipush (pc1 := 38) (v := (255 : Int32)) P114.q d14_35 (by decide) rfl ?_
    refine W.g_cmpY (pc1 := 54) P114.q d14_38 (by decide) rfl (hk2 hkk) ?_
    refine W.g_aload (pc1 := 56) P114.q d14_54 rfl rfl rfl ?_
    exact P114.retAN hlk hret rfl rfl rfl d14_56 (by decide) (by decide) ⟨t, kt, 1, 2 * n, _, rfl, P114.fr, P114.ext0, Nat.le_trans P112.sz gt, V113, Or.inr ⟨rfl, rfl, fun i hi => ⟨own_enc0 f i, own_enc1 f i⟩, kk, hkk, hk2 hkk⟩⟩
set_option maxRecDepth 65536 in
set_option maxHeartbeats 40000000 in
theorem c_cfal (l : Launch) (Z : State) (a0 : Array Value) (hw : ∀ d ∈ tables_1, d.before a0 Z = true) (t : Addr) (kb : ClassId) (n : Nat) (f : Nat → Int32) (cd : Int32) (N : Nat) (g : Nat → Int32) (hp : 0 < n) (hcap : n ≤ 4) (hC : W.Cdd n f cd N g) (h0 : Heap) (V : W.Arg Z h0 t kb .byte N g) : W.MetN l Z (⟨"java/lang/StringUTF16", "coderFromArrayLen", "([BI)B"⟩ : MethodName) jdk_52_method_15_code 2 ((Option.some Jvm.ClassFile.FieldType.byte)) [] ({ frames := 0, cells := 0, slots := 0, locals := 0 } : Room) #[.ref t, .int (Int32.ofNat n)]  h0 (W.Pure (some (.int cd)) h0) := by
  refine W.MetN.mk (ls0 := #[.val (.ref t), .val (.int (Int32.ofNat n))]) [] (plainFor_of_name pn_java_lang_StringUTF16) (fun m => by first | (simp [entryFrame, mkF, argsToLocals, Value.category]; done) | rfl) ?_
  intro p e s m below meth c s₁ hml hret hnm hlk P0
  show W.Go p.tables e below _ (s₁.setTop (mkF m 0 #[.val (.ref t), .val (.int (Int32.ofNat n))] []))
  refine W.g_iloadN (pc1 := 1) P0.q d16_0 rfl rfl ?_
  refine W.g_aloadN (pc1 := 2) P0.q d16_1 rfl rfl rfl ?_
  refine P0.lenG (pc1 := 3) V d16_2 rfl ?_
  refine W.g_isub (pc1 := 4) P0.q d16_3 rfl ?_
  refine W.g_bipush (pc1 := 6) (v := (31 : Int32)) P0.q d16_4 (by decide) rfl ?_
  refine W.g_iushr (pc1 := 7) P0.q d16_6 rfl ?_
  refine W.g_i2b (pc1 := 8) P0.q d16_7 rfl ?_
  rw [hC.cfal hp (by omega)]
  exact P0.retVN hlk hret (Or.inr (Or.inl rfl)) d16_8 (by decide) (by decide) ⟨by rcases hC.cd with q | q <;> subst q <;> rfl, rfl, rfl⟩
def QNW (Z : State) (x : Addr) (n : Nat) (f : Nat → Int32) (h0 : Heap) (v : Option Value) (h : Heap) (L : List Loc) : Prop := v = none ∧ W.Frw [x] h0.size L ∧ Keep h0 h [x] ∧ W.UStr Z h x n f
set_option maxRecDepth 65536 in
set_option maxHeartbeats 40000000 in
theorem nwu4 (l : Launch) (Z : State) (a0 : Array Value) (hw : ∀ d ∈ tables_1, d.before a0 Z = true) (x b : Addr) (kb : ClassId) (n : Nat) (f : Nat → Int32) (hp : 0 < n) (hcap : n ≤ 4) (hb : ∀ i, i < n → ¬ f i < 0 ∧ ¬ (65535 : Int32) < f i) (h0 : Heap) (E0 : Exa Z h0 x "java/lang/String") (v0 c0 : Value) (F0 : Fld Z h0 x "java/lang/String" "value" "[B" v0) (C0 : Fld Z h0 x "java/lang/String" "coder" "B" c0) (A : W.Arg Z h0 b kb .char n f) (EZ : Ext Z.heap h0) (hx : Z.heap.size ≤ x) (zc : Int32) (fm : Value) (US : UST Z zc fm) : W.MetN l Z (⟨"java/lang/String", "<init>", "([CIILjava/lang/Void;)V"⟩ : MethodName) jdk_42_method_149_code 6 ((Option.none : Option Jvm.ClassFile.FieldType)) [] ({ frames := 4, cells := 2, slots := 12, locals := 60 } : Room) #[.ref x, .ref b, .int 0, .int (Int32.ofNat n), .null]  h0 (QNW Z x n f h0) := by
  refine W.MetN.mk (ls0 := #[.val (.ref x), .val (.ref b), .val (.int (0 : Int32)), .val (.int (Int32.ofNat n)), .val .null, .unset]) [x] (plainFor_of_name pn_java_lang_String) (fun m => by first | (simp [entryFrame, mkF, argsToLocals, Value.category]; done) | rfl) ?_
  intro p e s m below meth c s₁ hml hret hnm hlk P0
  show W.Go p.tables e below _ (s₁.setTop (mkF m 0 #[.val (.ref x), .val (.ref b), .val (.int (0 : Int32)), .val (.int (Int32.ofNat n)), .val .null, .unset] []))
  refine W.g_aloadN (pc1 := 1) P0.q d4_0 rfl rfl rfl ?_
  refine P0.initO (pc1 := 4) (W := 0) (wd hw (k := 19) rfl) (wd hw (k := 20) rfl) (wd hw (k := 21) rfl) (by rw [hml]; rfl) (by decide) (Nat.le_of_eq rfl) (by decide) d4_1 rfl ?_
  intro T115 P115
  refine W.g_iloadN (pc1 := 5) P115.q d4_4 rfl rfl ?_
  refine W.g_ifY (pc1 := 27) P115.q d4_5 (by decide) rfl (fun q => by have := (W.eq32 (n := 0) (by omega) (by decide)).mp q; omega) ?_
  refine P115.getS (pc1 := 30) (wd hw (k := 54) rfl) Via.refl (US.2.1.ext (P115.extZ EZ (allS hx all0))) d4_27 rfl ?_
  intro T116 P116
  refine W.g_ifN (pc2 := 33) P116.q d4_30 rfl US.1 ?_
  refine W.g_aloadN (pc1 := 34) P116.q d4_33 rfl rfl rfl ?_
  refine W.g_iloadN (pc1 := 35) P116.q d4_34 rfl rfl ?_
  refine W.g_iloadN (pc1 := 36) P116.q d4_35 rfl rfl ?_
  refine P116.callS (pc1 := 39) (wd hw (k := 63) rfl) (wd hw (k := 64) rfl) (wd hw (k := 65) rfl) (wd hw (k := 66) rfl) (by decide) (W.MetN.pay (W := 0) (c_cmp3 l Z a0 hw b kb n f hcap hb h0 A EZ zc fm US) P116 (wd hw (k := 66) rfl) (wd hw (k := 65) rfl) (by decide) (by decide)) (argsL := [(.ref b), (.int (0 : Int32)), (.int (Int32.ofNat n))]) (st0 := []) (lenOf pd_ACII_R_AB rfl) rfl rfl (Nat.le_of_eq rfl) (by rw [hml]; rfl) (by decide) (by decide) (fun _ _ _ q => by obtain ⟨_, _, _, _, _, _, q2, q3, _⟩ := q; exact ⟨q2.up P116.sz all0, CHr.keep (W.Ext.toKeep q3 []) sf0 P116.chv⟩) d4_36 rfl ?_
  intro v117 T117 h117 L117 q117 P117
  obtain ⟨t, kt, cd, N, g, rfl, f117, E117, gt, V117, hC⟩ := q117
  show W.Go p.tables e below _ (T117.setTop (mkF m 39 #[.val (.ref x), .val (.ref b), .val (.int (0 : Int32)), .val (.int (Int32.ofNat n)), .val .null, .unset] [(.ref t)]))
  refine W.g_astore (pc1 := 41) (ls2 := #[.val (.ref x), .val (.ref b), .val (.int (0 : Int32)), .val (.int (Int32.ofNat n)), .val .null, .val (.ref t)]) P117.q d4_39 rfl rfl rfl ?_
  refine W.g_aloadN (pc1 := 42) P117.q d4_41 rfl rfl rfl ?_
  refine W.g_aload (pc1 := 44) P117.q d4_42 rfl rfl rfl ?_
  refine W.g_iloadN (pc1 := 45) P117.q d4_44 rfl rfl ?_
  refine P117.callS (pc1 := 48) (wd hw (k := 70) rfl) (wd hw (k := 71) rfl) (wd hw (k := 65) rfl) (wd hw (k := 72) rfl) (by decide) (W.MetN.pay (W := 1) (c_cfal l Z a0 hw t kt n f cd N g hp hcap hC h117 V117) P117 (wd hw (k := 72) rfl) (wd hw (k := 65) rfl) (by decide) (by decide)) (argsL := [(.ref t), (.int (Int32.ofNat n))]) (st0 := [(.ref x)]) (lenOf pd_ABI_R_B rfl) rfl rfl (Nat.le_of_eq rfl) (by rw [hml]; rfl) (by decide) (by decide) (W.Pure.ok P117.chv) d4_45 rfl ?_
  intro v118 T118 h118 L118 q118 P118
  obtain ⟨rfl, rfl, rfl⟩ := q118
  show W.Go p.tables e below _ (T118.setTop (mkF m 48 #[.val (.ref x), .val (.ref b), .val (.int (0 : Int32)), .val (.int (Int32.ofNat n)), .val .null, .val (.ref t)] [(.int cd), (.ref x)]))
  have hcd : fits .byte (.int cd) = true ∧ narrow .byte (.int cd) = .int cd := by rcases hC.cd with q | q <;> subst q <;> exact ⟨rfl, rfl⟩
  refine P118.putF (host := "") (pc1 := 51) (Or.inl (wd hw (k := 29) rfl)) Via.refl (C0.ext E117) (E0.ext E117) (Or.inr ⟨(wd hw (k := 25) rfl), rfl, hnm⟩) (wd hw (k := 9) rfl) (ty := .byte) (by decide) hcd.2 hcd.1 (Or.inl (List.mem_singleton.mpr rfl)) W.safe0 d4_48 rfl ?_
  intro T119 h119 P119 W119
  have Fa := (F0.ext E117).other W119 (Or.inr (slot_ne (t := .array .byte) (t' := .byte) (Or.inr (wd hw (k := 24) rfl)) (Or.inr (wd hw (k := 25) rfl)) (by decide) (by decide) (by decide)))
  have Ca := (C0.ext E117).same W119
  have Ea := (E0.ext E117).wr W119
  have hne : t ≠ x := fun q => Nat.not_lt.mpr gt (q.symm ▸ E0.lt)
  have Va := V117.other W119 hne
  refine W.g_aloadN (pc1 := 52) P119.q d4_51 rfl rfl rfl ?_
  refine W.g_aload (pc1 := 54) P119.q d4_52 rfl rfl rfl ?_
  refine P119.putF (host := "") (pc1 := 57) (Or.inl (wd hw (k := 28) rfl)) Via.refl Fa Ea (Or.inr ⟨(wd hw (k := 24) rfl), rfl, hnm⟩) (wd hw (k := 9) rfl) (ty := (.array .byte)) (by decide) rfl rfl (Or.inl (List.mem_singleton.mpr rfl)) W.safe0 d4_54 rfl ?_
  intro T120 h120 P120 W120
  have Cz := Ca.other W120 (Or.inr (slot_ne (t := .byte) (t' := .array .byte) (Or.inr (wd hw (k := 25) rfl)) (Or.inr (wd hw (k := 24) rfl)) (by decide) (by decide) (by decide)))
  have Fz := Fa.same W120
  have Ez := Ea.wr W120
  have Vz := Va.other W120 hne
  exact P120.retN hlk hret d4_57 (by decide) (by decide) ⟨rfl, P120.fr, P120.keep, ⟨t, kt, cd, N, g, Ez, Fz, Cz, Vz, hC, hb, by omega⟩⟩
set_option maxRecDepth 65536 in
set_option maxHeartbeats 40000000 in
theorem nwu1 (l : Launch) (Z : State) (a0 : Array Value) (hw : ∀ d ∈ tables_1, d.before a0 Z = true) (x b : Addr) (kb : ClassId) (n : Nat) (f : Nat → Int32) (hp : 0 < n) (hcap : n ≤ 4) (hb : ∀ i, i < n → ¬ f i < 0 ∧ ¬ (65535 : Int32) < f i) (h0 : Heap) (E0 : Exa Z h0 x "java/lang/String") (v0 c0 : Value) (F0 : Fld Z h0 x "java/lang/String" "value" "[B" v0) (C0 : Fld Z h0 x "java/lang/String" "coder" "B" c0) (A : W.Arg Z h0 b kb .char n f) (EZ : Ext Z.heap h0) (hx : Z.heap.size ≤ x) (zc : Int32) (fm : Value) (US : UST Z zc fm) : W.MetN l Z (⟨"java/lang/String", "<init>", "([C)V"⟩ : MethodName) jdk_42_method_3_code 2 ((Option.none : Option Jvm.ClassFile.FieldType)) [] ({ frames := 5, cells := 2, slots := 12, locals := 78 } : Room) #[.ref x, .ref b]  h0 (QNW Z x n f h0) := by
  refine W.MetN.mk (ls0 := #[.val (.ref x), .val (.ref b)]) [x] (plainFor_of_name pn_java_lang_String) (fun m => by first | (simp [entryFrame, mkF, argsToLocals, Value.category]; done) | rfl) ?_
  intro p e s m below meth c s₁ hml hret hnm hlk P0
  show W.Go p.tables e below _ (s₁.setTop (mkF m 0 #[.val (.ref x), .val (.ref b)] []))
  refine W.g_aloadN (pc1 := 1) P0.q d3_0 rfl rfl rfl ?_
  refine W.g_aloadN (pc1 := 2) P0.q d3_1 rfl rfl rfl ?_
  refine W.g_iconst (pc1 := 3) (v := (0 : Int32)) P0.q d3_2 (by decide) rfl ?_
  refine W.g_aloadN (pc1 := 4) P0.q d3_3 rfl rfl rfl ?_
  refine P0.lenG (pc1 := 5) A d3_4 rfl ?_
  refine W.g_null (pc1 := 6) P0.q d3_5 rfl ?_
  refine P0.callN (pc1 := 9) rfl (wd hw (k := 15) rfl) (wd hw (k := 16) rfl) (wd hw (k := 18) rfl) (by decide) (W.MetN.pay (W := 0) (nwu4 l Z a0 hw x b kb n f hp hcap hb h0 E0 v0 c0 F0 C0 A EZ hx zc fm US) P0 (wd hw (k := 18) rfl) (wd hw (k := 10) rfl) (by decide) (by decide)) (argsL := [(.ref b), (.int (0 : Int32)), (.int (Int32.ofNat n)), .null]) (st0 := []) (lenOf pd_ACIILjava_lang_Void_R_V rfl) rfl rfl (Nat.le_of_eq rfl) (by rw [hml]; rfl) (by decide) (by decide) (fun _ _ _ q => ⟨q.2.1, CHr.keep q.2.2.1 (sfS W.safe0 sf0) P0.chv⟩) d3_6 rfl ?_
  intro v121 T121 h121 L121 q121 P121
  obtain ⟨rfl, f121, K121, S121⟩ := q121
  show W.Go p.tables e below _ (T121.setTop (mkF m 9 #[.val (.ref x), .val (.ref b)] []))
  exact P121.retN hlk hret d3_9 (by decide) (by decide) ⟨rfl, P121.fr, P121.keep, S121⟩
set_option maxRecDepth 65536 in
set_option maxHeartbeats 40000000 in
theorem c_coder (l : Launch) (Z : State) (a0 : Array Value) (hw : ∀ d ∈ tables_1, d.before a0 Z = true) (x : Addr) (cd : Int32) (hcd : cd = 0 ∨ cd = 1) (h0 : Heap) (F0 : Fld Z h0 x "java/lang/String" "coder" "B" (.int cd)) (EZ : Ext Z.heap h0) (zc : Int32) (fm : Value) (US : UST Z zc fm) : W.MetN l Z (⟨"java/lang/String", "coder", "()B"⟩ : MethodName) jdk_42_method_152_code 1 ((Option.some Jvm.ClassFile.FieldType.byte)) [] ({ frames := 0, cells := 0, slots := 0, locals := 0 } : Room) #[.ref x]  h0 (W.Pure (some (.int cd)) h0) := by
  refine W.MetN.mk (ls0 := #[.val (.ref x)]) [] (plainFor_of_name pn_java_lang_String) (fun m => by first | (simp [entryFrame, mkF, argsToLocals, Value.category]; done) | rfl) ?_
  intro p e s m below meth c s₁ hml hret hnm hlk P0
  show W.Go p.tables e below _ (s₁.setTop (mkF m 0 #[.val (.ref x)] []))
  refine P0.getS (pc1 := 3) (wd hw (k := 54) rfl) Via.refl (US.2.1.ext (P0.extZ EZ all0)) d11_0 rfl ?_
  intro T122 P122
  refine W.g_ifN (pc2 := 6) P122.q d11_3 rfl US.1 ?_
  refine W.g_aloadN (pc1 := 7) P122.q d11_6 rfl rfl rfl ?_
  refine P122.getF (host := "") (pc1 := 10) (Or.inl (wd hw (k := 29) rfl)) Via.refl F0 d11_7 rfl ?_
  intro T123 P123
  refine W.g_goto (pc1 := 14) P123.q d11_10 (by decide) rfl ?_
  exact P123.retVN hlk hret (Or.inr (Or.inl rfl)) d11_14 (by decide) (by decide) ⟨by rcases hcd with q | q <;> subst q <;> rfl, rfl, rfl⟩
set_option maxRecDepth 65536 in
set_option maxHeartbeats 40000000 in
theorem c_len (l : Launch) (Z : State) (a0 : Array Value) (hw : ∀ d ∈ tables_1, d.before a0 Z = true) (x : Addr) (n : Nat) (f : Nat → Int32) (h0 : Heap) (S0 : W.UStr Z h0 x n f) (EZ : Ext Z.heap h0) (zc : Int32) (fm : Value) (US : UST Z zc fm) : W.MetN l Z (⟨"java/lang/String", "length", "()I"⟩ : MethodName) jdk_42_method_54_code 1 ((Option.some Jvm.ClassFile.FieldType.int)) [] ({ frames := 1, cells := 0, slots := 0, locals := 13 } : Room) #[.ref x]  h0 (W.Pure (some (.int (Int32.ofNat n))) h0) := by
  refine W.MetN.mk (ls0 := #[.val (.ref x)]) [] (plainFor_of_name pn_java_lang_String) (fun m => by first | (simp [entryFrame, mkF, argsToLocals, Value.category]; done) | rfl) ?_
  intro p e s m below meth c s₁ hml hret hnm hlk P0
  show W.Go p.tables e below _ (s₁.setTop (mkF m 0 #[.val (.ref x)] []))
  obtain ⟨t, kb, cd, N, g, E0, F0, C0, V0, hC, hb, hn⟩ := S0
  refine W.g_aloadN (pc1 := 1) P0.q d10_0 rfl rfl rfl ?_
  refine P0.getF (host := "") (pc1 := 4) (Or.inl (wd hw (k := 28) rfl)) Via.refl F0 d10_1 rfl ?_
  intro T124 P124
  refine P124.lenG (pc1 := 5) V0 d10_4 rfl ?_
  refine W.g_aloadN (pc1 := 6) P124.q d10_5 rfl rfl rfl ?_
  refine P124.callV (pc1 := 9) E0 (wd hw (k := 49) rfl) (wd hw (k := 50) rfl) (wd hw (k := 52) rfl) (wd hw (k := 51) rfl) (notFace_of_selects (args := #[]) (mvT P124.hz (wd hw (k := 52) rfl))) (by decide) (W.MetN.pay (W := 1) (c_coder l Z a0 hw x cd hC.cd h0 C0 (P124.extZ EZ all0) zc fm US) P124 (wd hw (k := 53) rfl) (wd hw (k := 10) rfl) (by decide) (by decide)) (argsL := []) (st0 := [(.int (Int32.ofNat N))]) (lenOf pd__R_B rfl) rfl rfl (Nat.le_of_eq rfl) (by rw [hml]; rfl) (by decide) (by decide) (W.Pure.ok P124.chv) d10_6 rfl ?_
  intro v125 T125 h125 L125 q125 P125
  obtain ⟨rfl, rfl, rfl⟩ := q125
  show W.Go p.tables e below _ (T125.setTop (mkF m 9 #[.val (.ref x)] [(.int cd), (.int (Int32.ofNat N))]))
  refine W.g_ishr (pc1 := 10) P125.q d10_9 rfl ?_
  rw [hC.len hn]
  exact P125.retIN hlk hret d10_10 (by decide) (by decide) ⟨rfl, rfl, rfl⟩
set_option maxRecDepth 65536 in
set_option maxHeartbeats 40000000 in
theorem c_lat (l : Launch) (Z : State) (a0 : Array Value) (hw : ∀ d ∈ tables_1, d.before a0 Z = true) (x : Addr) (cd : Int32) (hcd : cd = 0 ∨ cd = 1) (h0 : Heap) (F0 : Fld Z h0 x "java/lang/String" "coder" "B" (.int cd)) (EZ : Ext Z.heap h0) (zc : Int32) (fm : Value) (US : UST Z zc fm) : W.MetN l Z (⟨"java/lang/String", "isLatin1", "()Z"⟩ : MethodName) jdk_42_method_154_code 1 ((Option.some Jvm.ClassFile.FieldType.boolean)) [] ({ frames := 0, cells := 0, slots := 0, locals := 0 } : Room) #[.ref x]  h0 (W.Pure (some (.int (if cd = 0 then 1 else 0))) h0) := by
  refine W.MetN.mk (ls0 := #[.val (.ref x)]) [] (plainFor_of_name pn_java_lang_String) (fun m => by first | (simp [entryFrame, mkF, argsToLocals, Value.category]; done) | rfl) ?_
  intro p e s m below meth c s₁ hml hret hnm hlk P0
  show W.Go p.tables e below _ (s₁.setTop (mkF m 0 #[.val (.ref x)] []))
  refine P0.getS (pc1 := 3) (wd hw (k := 54) rfl) Via.refl (US.2.1.ext (P0.extZ EZ all0)) d19_0 rfl ?_
  intro T126 P126
  refine W.g_ifN (pc2 := 6) P126.q d19_3 rfl US.1 ?_
  refine W.g_aloadN (pc1 := 7) P126.q d19_6 rfl rfl rfl ?_
  refine P126.getF (host := "") (pc1 := 10) (Or.inl (wd hw (k := 29) rfl)) Via.refl F0 d19_7 rfl ?_
  intro T127 P127
  refine W.g_if (pc1 := 17) (pc2 := 13) P127.q d19_10 (by decide) rfl rfl (fun (hc : ¬ cd = 0) => ?_) (fun (hc : ¬ (¬ cd = 0)) => ?_)
  · refine W.g_iconst (pc1 := 18) (v := (0 : Int32)) P127.q d19_17 (by decide) rfl ?_
    exact P127.retVN hlk hret (Or.inl rfl) d19_18 (by decide) (by decide) ⟨by rw [if_neg hc]; rfl, rfl, rfl⟩
  · refine W.g_iconst (pc1 := 14) (v := (1 : Int32)) P127.q d19_13 (by decide) rfl ?_
    refine W.g_goto (pc1 := 18) P127.q d19_14 (by decide) rfl ?_
    exact P127.retVN hlk hret (Or.inl rfl) d19_18 (by decide) (by decide) ⟨by rw [if_pos (Decidable.byContradiction hc)]; rfl, rfl, rfl⟩
set_option maxRecDepth 65536 in
set_option maxHeartbeats 40000000 in
theorem c_pci (l : Launch) (Z : State) (a0 : Array Value) (hw : ∀ d ∈ tables_1, d.before a0 Z = true) (i n : Nat) (hi : i < n) (hn : n < 2147483648) (fm : Value) (hfm : fm.isRef = true) (h0 : Heap) : W.MetN l Z (⟨"jdk/internal/util/Preconditions", "checkIndex", "(IILjava/util/function/BiFunction;)I"⟩ : MethodName) jdk_41_method_11_code 3 ((Option.some Jvm.ClassFile.FieldType.int)) [] ({ frames := 0, cells := 0, slots := 0, locals := 0 } : Room) #[.int (Int32.ofNat i), .int (Int32.ofNat n), fm]  h0 (W.Pure (some (.int (Int32.ofNat i))) h0) := by
  refine W.MetN.mk (ls0 := #[.val (.int (Int32.ofNat i)), .val (.int (Int32.ofNat n)), .val fm]) [] (plainFor_of_name pn_jdk_internal_util_Preconditions) (fun m => by rcases ref_cases hfm with q | ⟨z, q⟩ <;> subst q <;> rfl) ?_
  intro p e s m below meth c s₁ hml hret hnm hlk P0
  show W.Go p.tables e below _ (s₁.setTop (mkF m 0 #[.val (.int (Int32.ofNat i)), .val (.int (Int32.ofNat n)), .val fm] []))
  refine W.g_iloadN (pc1 := 1) P0.q d21_0 rfl rfl ?_
  refine W.g_ifN (pc2 := 4) P0.q d21_1 rfl (W.nn32 (by omega)) ?_
  refine W.g_iloadN (pc1 := 5) P0.q d21_4 rfl rfl ?_
  refine W.g_iloadN (pc1 := 6) P0.q d21_5 rfl rfl ?_
  refine W.g_cmpY (pc1 := 16) P0.q d21_6 (by decide) rfl ((W.lt32 (by omega) hn).mpr hi) ?_
  refine W.g_iloadN (pc1 := 17) P0.q d21_16 rfl rfl ?_
  exact P0.retIN hlk hret d21_17 (by decide) (by decide) ⟨rfl, rfl, rfl⟩
set_option maxRecDepth 65536 in
set_option maxHeartbeats 40000000 in
theorem c_ci (l : Launch) (Z : State) (a0 : Array Value) (hw : ∀ d ∈ tables_1, d.before a0 Z = true) (i n : Nat) (hi : i < n) (hn : n < 2147483648) (h0 : Heap) (EZ : Ext Z.heap h0) (zc : Int32) (fm : Value) (US : UST Z zc fm) : W.MetN l Z (⟨"java/lang/String", "checkIndex", "(II)V"⟩ : MethodName) jdk_42_method_155_code 2 ((Option.none : Option Jvm.ClassFile.FieldType)) [] ({ frames := 1, cells := 0, slots := 0, locals := 14 } : Room) #[.int (Int32.ofNat i), .int (Int32.ofNat n)]  h0 (W.Pure none h0) := by
  refine W.MetN.mk (ls0 := #[.val (.int (Int32.ofNat i)), .val (.int (Int32.ofNat n))]) [] (plainFor_of_name pn_java_lang_String) (fun m => by first | (simp [entryFrame, mkF, argsToLocals, Value.category]; done) | rfl) ?_
  intro p e s m below meth c s₁ hml hret hnm hlk P0
  show W.Go p.tables e below _ (s₁.setTop (mkF m 0 #[.val (.int (Int32.ofNat i)), .val (.int (Int32.ofNat n))] []))
  refine W.g_iloadN (pc1 := 1) P0.q d20_0 rfl rfl ?_
  refine W.g_iloadN (pc1 := 2) P0.q d20_1 rfl rfl ?_
  refine P0.getS (pc1 := 5) (wd hw (k := 91) rfl) Via.refl (US.2.2.2.2.2.2.ext (P0.extZ EZ all0)) d20_2 rfl ?_
  intro T128 P128
  refine P128.callS (pc1 := 8) (wd hw (k := 93) rfl) (wd hw (k := 94) rfl) (wd hw (k := 92) rfl) (wd hw (k := 95) rfl) (by decide) (W.MetN.pay (W := 0) (c_pci l Z a0 hw i n hi hn fm US.2.2.2.2.2.1 h0) P128 (wd hw (k := 95) rfl) (wd hw (k := 92) rfl) (by decide) (by decide)) (argsL := [(.int (Int32.ofNat i)), (.int (Int32.ofNat n)), fm]) (st0 := []) (lenOf pd_IILjava_util_function_BiFunction_R_I rfl) rfl rfl (Nat.le_of_eq rfl) (by rw [hml]; rfl) (by decide) (by decide) (W.Pure.ok P128.chv) d20_5 rfl ?_
  intro v129 T129 h129 L129 q129 P129
  obtain ⟨rfl, rfl, rfl⟩ := q129
  show W.Go p.tables e below _ (T129.setTop (mkF m 8 #[.val (.int (Int32.ofNat i)), .val (.int (Int32.ofNat n))] [(.int (Int32.ofNat i))]))
  refine W.g_pop (pc1 := 9) P129.q d20_8 rfl rfl ?_
  exact P129.retN hlk hret d20_9 (by decide) (by decide) ⟨rfl, rfl, rfl⟩
def QE (Z : State) (x : Addr) (h0 : Heap) (v : Option Value) (h : Heap) (L : List Loc) : Prop := v = none ∧ W.Frw [x] h0.size L ∧ Keep h0 h [x] ∧ W.UStr Z h x 0 (fun _ => 0)
abbrev rmE4 : Room := ({ frames := 1, cells := 4, slots := 8, locals := 14 } : Room)
set_option maxRecDepth 65536 in
set_option maxHeartbeats 40000000 in
theorem nw4 (l : Launch) (Z : State) (a0 : Array Value) (hw : ∀ d ∈ tables_1, d.before a0 Z = true) (wS : ∀ a ∈ Bundle.stringAtoms, a.before a0 Z = true) (hEL : EW Z a0 ownEL) (x b : Addr) (o : Int32) (h0 : Heap) (E0 : Exa Z h0 x "java/lang/String") (v0 c0 : Value) (F0 : Fld Z h0 x "java/lang/String" "value" "[B" v0) (C0 : Fld Z h0 x "java/lang/String" "coder" "B" c0) : W.MetW l Z ownEL (⟨"java/lang/String", "<init>", "([CIILjava/lang/Void;)V"⟩ : MethodName) jdk_42_method_149_code 6 none [] rmE4 #[.ref x, .ref b, .int o, .int 0, .null] [x] h0 (QE Z x h0) := by
  refine W.MetW.mk (ls0 := #[.val (.ref x), .val (.ref b), .val (.int o), .val (.int (0 : Int32)), .val .null, .unset]) [x] (plainFor_of_name pn_java_lang_String) (fun m => by first | (simp [entryFrame, mkF, argsToLocals, Value.category]; done) | rfl) ?_
  intro p e s m below meth c s₁ hml hret hnm hlk hss P0
  show W.Go p.tables e below _ (s₁.setTop (mkF m 0 #[.val (.ref x), .val (.ref b), .val (.int o), .val (.int (0 : Int32)), .val .null, .unset] []))
  refine W.g_aloadN (pc1 := 1) P0.q d4_0 rfl rfl rfl ?_
  refine P0.initO (pc1 := 4) (W := 0) (wd hw (k := 19) rfl) (wd hw (k := 20) rfl) (wd hw (k := 21) rfl) (by rw [hml]; rfl) (by decide) (Nat.le_of_eq rfl) (by decide) d4_1 rfl ?_
  intro T130 P130
  refine W.g_iloadN (pc1 := 5) P130.q d4_4 rfl rfl ?_
  refine W.g_ifN (pc2 := 8) P130.q d4_5 rfl (by decide) ?_
  refine W.g_aloadN (pc1 := 9) P130.q d4_8 rfl rfl rfl ?_
  refine P130.ldcR (pc1 := 11) (n := 0) (vs := []) (z := 0) (wd hw (k := 22) rfl) wS hEL (by decide) ⟨by decide, rfl⟩ (by decide) (by decide) (by decide) (by decide) (by decide) (by decide) d4_9 rfl ?_
  intro a131 T131 h131 t131 k131 P131 E131 R131 A131 C131 F131 V131 N131 L131
  have S131 := R131.safe E0.lt (hss x (List.mem_singleton.mpr rfl))
  refine P131.getF (host := "") (pc1 := 14) (Or.inl (wd hw (k := 28) rfl)) Via.refl F131 d4_11 rfl ?_
  intro T132 P132
  refine P132.putF (host := "") (pc1 := 17) (Or.inl (wd hw (k := 28) rfl)) Via.refl (F0.ext E131) (E0.ext E131) (Or.inr ⟨(wd hw (k := 24) rfl), rfl, hnm⟩) (wd hw (k := 9) rfl) (ty := (.array .byte)) (by decide) rfl rfl (Or.inl (List.mem_singleton.mpr rfl)) S131 d4_14 rfl ?_
  intro T133 h133 P133 W133
  have Sw133 : Safe Z ownEL T131.vm h133 x := Safe.wr W133 S131 P131.chv S131
  have Ca133 := (C0.ext E131).other W133 (Or.inr (slot_ne (t := .byte) (t' := .array .byte) (Or.inr (wd hw (k := 25) rfl)) (Or.inr (wd hw (k := 24) rfl)) (by decide) (by decide) (by decide)))
  have Fa133 := (F0.ext E131).same W133
  have Ea133 := (E0.ext E131).wr W133
  have Va133 := V131.other W133 (Ne.symm (N131 x S131).2)
  refine W.g_aloadN (pc1 := 18) P133.q d4_17 rfl rfl rfl ?_
  refine P133.ldcR (pc1 := 20) (n := 0) (vs := []) (z := 0) (wd hw (k := 22) rfl) wS hEL (by decide) ⟨by decide, rfl⟩ (by decide) (by decide) (by decide) (by decide) (by decide) (by decide) d4_18 rfl ?_
  intro a134 T134 h134 t134 k134 P134 E134 R134 A134 C134 F134 V134 N134 L134
  have S134 := R134.safe Ea133.lt Sw133
  refine P134.getF (host := "") (pc1 := 23) (Or.inl (wd hw (k := 29) rfl)) Via.refl C134 d4_20 rfl ?_
  intro T135 P135
  refine P135.putF (host := "") (pc1 := 26) (Or.inl (wd hw (k := 29) rfl)) Via.refl (Ca133.ext E134) (Ea133.ext E134) (Or.inr ⟨(wd hw (k := 25) rfl), rfl, hnm⟩) (wd hw (k := 9) rfl) (ty := .byte) (by decide) rfl rfl (Or.inl (List.mem_singleton.mpr rfl)) S134 d4_23 rfl ?_
  intro T136 h136 P136 W136
  have Fz := (Fa133.ext E134).other W136 (Or.inr (slot_ne (t := .array .byte) (t' := .byte) (Or.inr (wd hw (k := 24) rfl)) (Or.inr (wd hw (k := 25) rfl)) (by decide) (by decide) (by decide)))
  have Cz := (Ca133.ext E134).same W136
  have Ez := (Ea133.ext E134).wr W136
  have hne : t131 ≠ x := Ne.symm (N131 x S131).2
  have Vz := (Va133.ext E134).other W136 hne
  exact P136.retW hEL hlk hret d4_26 (by decide) (by decide) ⟨rfl, P136.fr, P136.keep, ⟨t131, k131, 0, 0, (fun _ => 0), Ez, Fz, Cz, W.Arg.of 0 Vz rfl (by decide) (fun i q => absurd q (Nat.not_lt_zero i)), Or.inl ⟨rfl, rfl, fun i q => absurd q (Nat.not_lt_zero i)⟩, (fun i q => absurd q (Nat.not_lt_zero i)), (by decide)⟩⟩
abbrev rmE1 : Room := ({ frames := 2, cells := 4, slots := 8, locals := 36 } : Room)
set_option maxRecDepth 65536 in
set_option maxHeartbeats 40000000 in
theorem nw1 (l : Launch) (Z : State) (a0 : Array Value) (hw : ∀ d ∈ tables_1, d.before a0 Z = true) (wS : ∀ a ∈ Bundle.stringAtoms, a.before a0 Z = true) (hEL : EW Z a0 ownEL) (x b : Addr) (kb : ClassId) (vs : List Value) (dv : Value) (h0 : Heap) (E0 : Exa Z h0 x "java/lang/String") (v0 c0 : Value) (F0 : Fld Z h0 x "java/lang/String" "value" "[B" v0) (C0 : Fld Z h0 x "java/lang/String" "coder" "B" c0) (V0 : Arv Z h0 b kb .char 0 vs dv) : W.MetW l Z ownEL (⟨"java/lang/String", "<init>", "([C)V"⟩ : MethodName) jdk_42_method_3_code 2 none [] rmE1 #[.ref x, .ref b] [x] h0 (QE Z x h0) := by
  refine W.MetW.mk (ls0 := #[.val (.ref x), .val (.ref b)]) [x] (plainFor_of_name pn_java_lang_String) (fun m => by first | (simp [entryFrame, mkF, argsToLocals, Value.category]; done) | rfl) ?_
  intro p e s m below meth c s₁ hml hret hnm hlk hss P0
  show W.Go p.tables e below _ (s₁.setTop (mkF m 0 #[.val (.ref x), .val (.ref b)] []))
  refine W.g_aloadN (pc1 := 1) P0.q d3_0 rfl rfl rfl ?_
  refine W.g_aloadN (pc1 := 2) P0.q d3_1 rfl rfl rfl ?_
  refine W.g_iconst (pc1 := 3) (v := (0 : Int32)) P0.q d3_2 (by decide) rfl ?_
  refine W.g_aloadN (pc1 := 4) P0.q d3_3 rfl rfl rfl ?_
  refine P0.len (pc1 := 5) V0 d3_4 rfl ?_
  refine W.g_null (pc1 := 6) P0.q d3_5 rfl ?_
  refine P0.callNW (pc1 := 9) rfl (wd hw (k := 15) rfl) (wd hw (k := 16) rfl) (wd hw (k := 18) rfl) (by decide) (W.MetW.pay (W := 0) (nw4 l Z a0 hw wS hEL x b 0 h0 E0 v0 c0 F0 C0) P0 hEL (allS ⟨E0.lt, hss x (List.mem_singleton.mpr rfl)⟩ all0) (wd hw (k := 18) rfl) (wd hw (k := 10) rfl) (by decide) (by decide)) (argsL := [(.ref b), (.int (0 : Int32)), (.int (0 : Int32)), .null]) (st0 := []) (lenOf pd_ACIILjava_lang_Void_R_V rfl) rfl rfl (Nat.le_of_eq rfl) (by rw [hml]; rfl) (by decide) (by decide) (fun _ _ _ q => q.2.1) d3_6 rfl ?_
  intro v137 T137 h137 L137 q137 P137 R137
  obtain ⟨rfl, f137, K137, S137⟩ := q137
  show W.Go p.tables e below _ (T137.setTop (mkF m 9 #[.val (.ref x), .val (.ref b)] []))
  exact P137.retW hEL hlk hret d3_9 (by decide) (by decide) ⟨rfl, P137.fr, P137.keep, S137⟩
def ChI (c : Int32) : Prop := ¬ c < 0 ∧ ¬ (65535 : Int32) < c
abbrev own_hiP (c : Int32) : Prop := ¬ c < 55296 ∧ ¬ (56319 : Int32) < c
abbrev own_loP (c : Int32) : Prop := ¬ c < 56320 ∧ ¬ (57343 : Int32) < c
def own_cp (h l : Int32) : Int32 := ((h - 55296) <<< ((10 : Int32) &&& 31)) + (l - 56320) + 65536
def own_pt (n : Nat) (f : Nat → Int32) (i : Nat) : Int32 := if i < n then (if own_hiP (f i) ∧ i + 1 < n ∧ own_loP (f (i + 1)) then own_cp (f i) (f (i + 1)) else f i) else -1
def own_w (p : Int32) : Nat := if p < 65536 then 1 else 2
def own_cmp (x y : Int32) : Int32 := if x < y then -1 else if y < x then 1 else 0
def own_nx (n i : Nat) (p : Int32) : Nat := if p < 0 then n else i + own_w p
theorem own_shl10 (n : Nat) : Int32.ofNat n <<< ((10 : Int32) &&& 31) = Int32.ofNat (1024 * n) := by
  have e : ((10 : Int32) &&& 31) = 10 := by decide
  rw [e]
  apply Int32.toBitVec_inj.mp
  rw [Int32.toBitVec_shiftLeft]
  have e1 : ((10 : Int32).toBitVec.smod 32) = 10#32 := by decide
  rw [e1, BitVec.shiftLeft_eq']
  apply BitVec.eq_of_toNat_eq
  show ((BitVec.ofNat 32 n) <<< 10).toNat = (BitVec.ofNat 32 (1024 * n)).toNat
  rw [BitVec.toNat_shiftLeft, BitVec.toNat_ofNat, BitVec.toNat_ofNat, Nat.shiftLeft_eq]
  omega
theorem own_nat {c : Int32} (h : 0 ≤ c.toInt) : c = Int32.ofNat c.toInt.toNat := by
  have := c.toInt_lt
  apply Int32.toInt_inj.mp
  rw [Int32.toInt_ofNat_of_lt (by show c.toInt.toNat < 2147483648; omega)]
  omega
theorem own_shl10i {c : Int32} (h : 0 ≤ c.toInt) (h2 : c.toInt < 65536) : (c <<< ((10 : Int32) &&& 31)).toInt = c.toInt * 1024 := by
  rw [own_nat h, own_shl10, Int32.toInt_ofNat_of_lt (by show 1024 * c.toInt.toNat < 2147483648; omega), Int32.toInt_ofNat_of_lt (by show c.toInt.toNat < 2147483648; omega)]
  omega
theorem own_hi {h : Int32} (q : own_hiP h) : 55296 ≤ h.toInt ∧ h.toInt ≤ 56319 := by
  obtain ⟨a, b⟩ := q
  rw [Int32.lt_iff_toInt_lt] at a b
  have e0 : (55296 : Int32).toInt = 55296 := rfl
  have e1 : (56319 : Int32).toInt = 56319 := rfl
  omega
theorem own_lo {h : Int32} (q : own_loP h) : 56320 ≤ h.toInt ∧ h.toInt ≤ 57343 := by
  obtain ⟨a, b⟩ := q
  rw [Int32.lt_iff_toInt_lt] at a b
  have e0 : (56320 : Int32).toInt = 56320 := rfl
  have e1 : (57343 : Int32).toInt = 57343 := rfl
  omega
theorem own_subi {a b : Int32} (h : -2147483648 ≤ a.toInt - b.toInt) (h2 : a.toInt - b.toInt < 2147483648) : (a - b).toInt = a.toInt - b.toInt := by
  rw [Int32.toInt_sub, Int.bmod_eq_of_le (by omega) (by omega)]
theorem own_addi {a b : Int32} (h : -2147483648 ≤ a.toInt + b.toInt) (h2 : a.toInt + b.toInt < 2147483648) : (a + b).toInt = a.toInt + b.toInt := by
  rw [Int32.toInt_add, Int.bmod_eq_of_le (by omega) (by omega)]
theorem own_cpi {h l : Int32} (a : own_hiP h) (b : own_loP l) : (own_cp h l).toInt = (h.toInt - 55296) * 1024 + (l.toInt - 56320) + 65536 := by
  have ha := own_hi a
  have hb := own_lo b
  have e0 : (55296 : Int32).toInt = 55296 := rfl
  have e1 : (56320 : Int32).toInt = 56320 := rfl
  have e2 : (65536 : Int32).toInt = 65536 := rfl
  have s1 : (h - 55296).toInt = h.toInt - 55296 := by rw [own_subi (by rw [e0]; omega) (by rw [e0]; omega), e0]
  have s2 : (l - 56320).toInt = l.toInt - 56320 := by rw [own_subi (by rw [e1]; omega) (by rw [e1]; omega), e1]
  have s3 := own_shl10i (c := h - 55296) (by omega) (by omega)
  unfold own_cp
  rw [own_addi (by rw [own_addi (by omega) (by omega)]; omega) (by rw [own_addi (by omega) (by omega)]; omega), own_addi (by omega) (by omega), s3, s2, s1, e2]
theorem own_cpj {h l : Int32} (a : own_hiP h) (b : own_loP l) : (h <<< ((10 : Int32) &&& 31)) + l + (-56613888) = own_cp h l := by
  have ha := own_hi a
  have hb := own_lo b
  have e2 : (-56613888 : Int32).toInt = -56613888 := rfl
  have s3 := own_shl10i (c := h) (by omega) (by omega)
  apply Int32.toInt_inj.mp
  rw [own_cpi a b, own_addi (by rw [own_addi (by omega) (by omega)]; omega) (by rw [own_addi (by omega) (by omega)]; omega), own_addi (by omega) (by omega), s3, e2]
  omega
theorem own_cpg {h l : Int32} (a : own_hiP h) (b : own_loP l) : ¬ own_cp h l < 65536 := by
  have ha := own_hi a
  have hb := own_lo b
  rw [Int32.lt_iff_toInt_lt, own_cpi a b]
  have e2 : (65536 : Int32).toInt = 65536 := rfl
  omega
theorem own_ge0 {p : Int32} (h : ¬ p < 65536) : ¬ p < 0 := by
  rw [Int32.lt_iff_toInt_lt] at h ⊢
  have e2 : (65536 : Int32).toInt = 65536 := rfl
  have e0 : (0 : Int32).toInt = 0 := rfl
  omega
theorem own_ptn {n i : Nat} {f : Nat → Int32} (h : ¬ i < n) : own_pt n f i = -1 := by rw [own_pt, if_neg h]
theorem own_ptp {n i : Nat} {f : Nat → Int32} (hb : ∀ i, i < n → ChI (f i)) (h : i < n) : ¬ own_pt n f i < 0 := by
  rw [own_pt, if_pos h]
  by_cases q : own_hiP (f i) ∧ i + 1 < n ∧ own_loP (f (i + 1))
  · rw [if_pos q]; exact own_ge0 (own_cpg q.1 q.2.2)
  · rw [if_neg q]; exact (hb i h).1
theorem own_ptw {n i : Nat} {f : Nat → Int32} (hb : ∀ i, i < n → ChI (f i)) (h : i < n) : i + own_w (own_pt n f i) ≤ n := by
  rw [own_pt, if_pos h]
  by_cases q : own_hiP (f i) ∧ i + 1 < n ∧ own_loP (f (i + 1))
  · rw [if_pos q, own_w, if_neg (own_cpg q.1 q.2.2)]; omega
  · rw [if_neg q, own_w, if_pos]
    · omega
    · have r := (hb i h).2
      rw [Int32.lt_iff_toInt_lt] at r ⊢
      have e1 : (65535 : Int32).toInt = 65535 := rfl
      have e2 : (65536 : Int32).toInt = 65536 := rfl
      omega
theorem own_w1 (p : Int32) : 1 ≤ own_w p := by unfold own_w; split <;> decide
def own_E (na nb : Nat) (fa fb : Nat → Int32) : Nat → Nat → Int32
  | 0, _ => 0
  | k + 1, i => if own_pt na fa i = own_pt nb fb i then (if own_pt na fa i < 0 then 0 else own_E na nb fa fb k (i + own_w (own_pt na fa i))) else own_cmp (own_pt na fa i) (own_pt nb fb i)
theorem own_cmp0 (x y : Int32) : own_cmp x y = 0 ↔ x = y := by
  unfold own_cmp
  constructor
  · intro h
    by_cases q : x < y
    · rw [if_pos q] at h; exact absurd h (by decide)
    · rw [if_neg q] at h
      by_cases r : y < x
      · rw [if_pos r] at h; exact absurd h (by decide)
      · rw [Int32.lt_iff_toInt_lt] at q r; exact Int32.toInt_inj.mp (by omega)
  · rintro rfl; rw [if_neg (fun q => Int32.lt_irrefl q), if_neg (fun q => Int32.lt_irrefl q)]
def own_ch (p0 q0 p1 q1 p2 q2 : Int32) : Int32 := if ¬ own_cmp p0 q0 = 0 then own_cmp p0 q0 else if ¬ own_cmp p1 q1 = 0 then own_cmp p1 q1 else own_cmp p2 q2
theorem own_chE {na nb : Nat} {fa fb : Nat → Int32} : own_ch (own_pt na fa 0) (own_pt nb fb 0) (own_pt na fa (own_nx na 0 (own_pt na fa 0))) (own_pt nb fb (own_nx nb 0 (own_pt nb fb 0)))
    (own_pt na fa (own_nx na (own_nx na 0 (own_pt na fa 0)) (own_pt na fa (own_nx na 0 (own_pt na fa 0))))) (own_pt nb fb (own_nx nb (own_nx nb 0 (own_pt nb fb 0)) (own_pt nb fb (own_nx nb 0 (own_pt nb fb 0))))) = own_E na nb fa fb 3 0 := by
  have m1 : (-1 : Int32) < 0 := by decide
  have z0 : own_cmp (-1) (-1) = 0 := by decide
  have fa' : own_pt na fa na = -1 := own_ptn (Nat.lt_irrefl _)
  have fb' : own_pt nb fb nb = -1 := own_ptn (Nat.lt_irrefl _)
  unfold own_ch
  rw [own_E]
  by_cases q : own_pt na fa 0 = own_pt nb fb 0
  · rw [if_neg (fun r => r ((own_cmp0 _ _).mpr q)), if_pos q, ← q]
    generalize own_pt na fa 0 = p0
    by_cases s : p0 < 0
    · have x1 : own_nx na 0 p0 = na := by rw [own_nx, if_pos s]
      have x2 : own_nx nb 0 p0 = nb := by rw [own_nx, if_pos s]
      rw [if_pos s, x1, x2, fa', fb']
      have x3 : own_nx na na (-1) = na := by rw [own_nx, if_pos m1]
      have x4 : own_nx nb nb (-1) = nb := by rw [own_nx, if_pos m1]
      rw [x3, x4, fa', fb', if_neg (fun r => r z0), z0]
    · have x1 : own_nx na 0 p0 = 0 + own_w p0 := by rw [own_nx, if_neg s]
      have x2 : own_nx nb 0 p0 = 0 + own_w p0 := by rw [own_nx, if_neg s]
      rw [if_neg s, x1, x2, own_E]
      generalize 0 + own_w p0 = i1
      by_cases t : own_pt na fa i1 = own_pt nb fb i1
      · rw [if_neg (fun r => r ((own_cmp0 _ _).mpr t)), if_pos t, ← t]
        generalize own_pt na fa i1 = p1
        by_cases u : p1 < 0
        · have x3 : own_nx na i1 p1 = na := by rw [own_nx, if_pos u]
          have x4 : own_nx nb i1 p1 = nb := by rw [own_nx, if_pos u]
          rw [if_pos u, x3, x4, fa', fb', z0]
        · have x3 : own_nx na i1 p1 = i1 + own_w p1 := by rw [own_nx, if_neg u]
          have x4 : own_nx nb i1 p1 = i1 + own_w p1 := by rw [own_nx, if_neg u]
          rw [if_neg u, x3, x4, own_E]
          generalize i1 + own_w p1 = i2
          by_cases v : own_pt na fa i2 = own_pt nb fb i2
          · rw [if_pos v, (own_cmp0 _ _).mpr v, own_E]; split <;> rfl
          · rw [if_neg v]
      · rw [if_pos (fun r => t ((own_cmp0 _ _).mp r)), if_neg t]
  · rw [if_pos (fun r => q ((own_cmp0 _ _).mp r)), if_neg q]
theorem own_i32 {n : Nat} (h : n < 2147483648) : (Int32.ofNat n).toInt = n := Int32.toInt_ofNat_of_lt h
/-- the loop's end: one of the two is used up -/
theorem own_end {na nb k i : Nat} {fa fb : Nat → Int32} (ha : ∀ i, i < na → ChI (fa i)) (hb : ∀ i, i < nb → ChI (fb i)) (sa : na < 100) (sb : nb < 100) (ia : i ≤ na) (ib : i ≤ nb) (ka : na - i ≤ k) (kb : nb - i ≤ k) (he : i = na ∨ i = nb) : own_cmp (Int32.ofNat na) (Int32.ofNat nb) = own_E na nb fa fb k i := by
  have lt : ∀ {x y : Nat}, x < 100 → y < 100 → (Int32.ofNat x < Int32.ofNat y ↔ x < y) := fun {x y} hx hy => by
    rw [Int32.lt_iff_toInt_lt, own_i32 (by omega), own_i32 (by omega)]; omega
  cases k with
  | zero =>
    have e : na = nb := by omega
    subst e; rw [own_E]; exact (own_cmp0 _ _).mpr rfl
  | succ k =>
    rw [own_E]
    rcases Nat.lt_or_ge i na with a | a
    · rcases Nat.lt_or_ge i nb with b | b
      · omega
      · have p := own_ptp ha a
        have e2 : own_pt nb fb i = -1 := own_ptn (by omega)
        have ne : ¬ own_pt na fa i = -1 := fun r => p (by rw [r]; decide)
        rw [e2, if_neg ne]
        have e1 : own_cmp (Int32.ofNat na) (Int32.ofNat nb) = 1 := by rw [own_cmp, if_neg (fun q => by have := (lt sa sb).mp q; omega), if_pos ((lt sb sa).mpr (by omega))]
        rw [e1, own_cmp]
        rw [Int32.lt_iff_toInt_lt] at p
        have m : (-1 : Int32).toInt = -1 := rfl
        have z : (0 : Int32).toInt = 0 := rfl
        rw [if_neg (by rw [Int32.lt_iff_toInt_lt]; omega), if_pos (by rw [Int32.lt_iff_toInt_lt]; omega)]
    · have e1 : own_pt na fa i = -1 := own_ptn (by omega)
      rcases Nat.lt_or_ge i nb with b | b
      · have p := own_ptp hb b
        have ne : ¬ (-1 : Int32) = own_pt nb fb i := fun r => p (by rw [← r]; decide)
        rw [e1, if_neg ne]
        have e3 : own_cmp (Int32.ofNat na) (Int32.ofNat nb) = -1 := by rw [own_cmp, if_pos ((lt sa sb).mpr (by omega))]
        rw [e3, own_cmp]
        rw [Int32.lt_iff_toInt_lt] at p
        have m : (-1 : Int32).toInt = -1 := rfl
        have z : (0 : Int32).toInt = 0 := rfl
        rw [if_pos (by rw [Int32.lt_iff_toInt_lt]; omega)]
      · have e2 : own_pt nb fb i = -1 := own_ptn (by omega)
        have e : na = nb := by omega
        rw [e1, e2, if_pos rfl, if_pos (by decide)]
        subst e; exact (own_cmp0 _ _).mpr rfl

theorem own_chn (x : Int32) : ChI (nar .char x) := by
  have h := fits_nar_char x
  simp only [fits, Bool.and_eq_true, decide_eq_true_eq] at h
  exact ⟨Int32.not_lt.mpr h.1, Int32.not_lt.mpr h.2⟩
theorem add32 (a d : Nat) : Int32.ofNat a + Int32.ofNat d = Int32.ofNat (a + d) := (Int32.ofNat_add a d).symm
theorem add1 (a : Nat) : Int32.ofNat a + (1 : Int32) = Int32.ofNat (a + 1) := (Int32.ofNat_add a 1).symm
def QCh (h0 : Heap) (v : Option Value) (h : Heap) (L : List Loc) : Prop := L = [] ∧ h0 = h ∧ ∃ r, v = some (.int r) ∧ ChI r
theorem QCh.ok {h0 : Heap} {Z : State} {EL : List (String × Nat)} {vm0 : Vm} {wl : List Addr} {k : Nat} (H : CHv Z EL vm0 h0) : ∀ u h L, QCh h0 u h L → W.Frw wl k L ∧ CHr Z EL vm0 h0 vm0 h := fun u h L q => by
  obtain ⟨rfl, rfl, -⟩ := q; exact ⟨W.Frw.nil, CHr.refl H⟩
def QPo (P : Prop) (h0 : Heap) (v : Option Value) (h : Heap) (L : List Loc) : Prop := L = [] ∧ h0 = h ∧ ((v = some (.int 1) ∧ P) ∨ (v = some (.int 0) ∧ ¬ P))
theorem QPo.ok {P : Prop} {h0 : Heap} {Z : State} {EL : List (String × Nat)} {vm0 : Vm} {wl : List Addr} {k : Nat} (H : CHv Z EL vm0 h0) : ∀ u h L, QPo P h0 u h L → W.Frw wl k L ∧ CHr Z EL vm0 h0 vm0 h := fun u h L q => by
  obtain ⟨rfl, rfl, -⟩ := q; exact ⟨W.Frw.nil, CHr.refl H⟩
set_option maxRecDepth 65536 in
set_option maxHeartbeats 40000000 in
theorem c_shape (l : Launch) (Z : State) (a0 : Array Value) (hw : ∀ d ∈ tables_1, d.before a0 Z = true) (u o : Int32) (hu : ChI u) (h0 : Heap) : W.MetN l Z (⟨"com/example/broker/broker/Utf8OrderComparePinLaw", "shape", "(CI)C"⟩ : MethodName) method_3_code 2 ((Option.some Jvm.ClassFile.FieldType.char)) [] ({ frames := 0, cells := 0, slots := 0, locals := 0 } : Room) #[.int u, .int o]  h0 (QCh h0) := by
  refine W.MetN.mk (ls0 := #[.val (.int u), .val (.int o)]) [] (plainFor_of_name pn_com_example_broker_broker_Utf8OrderComparePinLaw) (fun m => by first | (simp [entryFrame, mkF, argsToLocals, Value.category]; done) | rfl) ?_
  intro p e s m below meth c s₁ hml hret hnm hlk P0
  show W.Go p.tables e below _ (s₁.setTop (mkF m 0 #[.val (.int u), .val (.int o)] []))
  refine W.g_iloadN (pc1 := 1) P0.q d1_0 rfl rfl ?_
  refine W.g_iconst (pc1 := 2) (v := (1 : Int32)) P0.q d1_1 (by decide) rfl ?_
  refine W.g_cmp (pc1 := 15) (pc2 := 5) P0.q d1_2 (by decide) rfl rfl (fun (h1 : ¬ o = (1 : Int32)) => ?_) (fun (h1 : ¬ (¬ o = (1 : Int32))) => ?_)
  · refine W.g_iloadN (pc1 := 16) P0.q d1_15 rfl rfl ?_
    refine W.g_iconst (pc1 := 17) (v := (2 : Int32)) P0.q d1_16 (by decide) rfl ?_
    refine W.g_cmp (pc1 := 30) (pc2 := 20) P0.q d1_17 (by decide) rfl rfl (fun (h2 : ¬ o = (2 : Int32)) => ?_) (fun (h2 : ¬ (¬ o = (2 : Int32))) => ?_)
    · refine W.g_iloadN (pc1 := 31) P0.q d1_30 rfl rfl ?_
      exact P0.retVN hlk hret (Or.inr (Or.inr (Or.inl rfl))) d1_31 (by decide) (by decide) ⟨rfl, rfl, u, by rw [own_narc hu], hu⟩
    · refine P0.ldcI (pc1 := 22) (wd hw (k := 96) rfl) d1_20 rfl ?_
      refine W.g_iloadN (pc1 := 23) P0.q d1_22 rfl rfl ?_
      refine W.g_sipush (pc1 := 26) (v := (1023 : Int32)) P0.q d1_23 (by decide) rfl ?_
      refine W.g_iand (pc1 := 27) P0.q d1_26 rfl ?_
      refine W.g_ior (pc1 := 28) P0.q d1_27 rfl ?_
      refine W.g_i2c (pc1 := 29) P0.q d1_28 rfl ?_
      exact P0.retVN hlk hret (Or.inr (Or.inr (Or.inl rfl))) d1_29 (by decide) (by decide) ⟨rfl, rfl, _, by rw [own_narc (own_chn _)], (own_chn _)⟩
  · refine P0.ldcI (pc1 := 7) (wd hw (k := 73) rfl) d1_5 rfl ?_
    refine W.g_iloadN (pc1 := 8) P0.q d1_7 rfl rfl ?_
    refine W.g_sipush (pc1 := 11) (v := (1023 : Int32)) P0.q d1_8 (by decide) rfl ?_
    refine W.g_iand (pc1 := 12) P0.q d1_11 rfl ?_
    refine W.g_ior (pc1 := 13) P0.q d1_12 rfl ?_
    refine W.g_i2c (pc1 := 14) P0.q d1_13 rfl ?_
    exact P0.retVN hlk hret (Or.inr (Or.inr (Or.inl rfl))) d1_14 (by decide) (by decide) ⟨rfl, rfl, _, by rw [own_narc (own_chn _)], (own_chn _)⟩
def own_f (c0 c1 c2 : Int32) : Nat → Int32
  | 0 => c0
  | 1 => c1
  | _ => c2
def QB (Z : State) (n : Nat) (f : Nat → Int32) (h0 : Heap) (v : Option Value) (h : Heap) (L : List Loc) : Prop := ∃ a, v = some (.ref a) ∧ W.Frw [] h0.size L ∧ Ext h0 h ∧ W.UStr Z h a n f
abbrev rmStr : Room := ({ frames := 6, cells := 8, slots := 40, locals := 100 } : Room)
set_option maxRecDepth 65536 in
set_option maxHeartbeats 40000000 in
theorem c_str0 (l : Launch) (Z : State) (a0 : Array Value) (hw : ∀ d ∈ tables_1, d.before a0 Z = true) (wS : ∀ a ∈ Bundle.stringAtoms, a.before a0 Z = true) (hEL : EW Z a0 ownEL) (c0 c1 c2 : Int32) (b0 : ChI c0) (b1 : ChI c1) (b2 : ChI c2) (h0 : Heap) (EZ : Ext Z.heap h0) (zc : Int32) (fm : Value) (US : UST Z zc fm) : W.MetW l Z ownEL (⟨"com/example/broker/broker/Utf8OrderComparePinLaw", "str", "(CCCI)Ljava/lang/String;"⟩ : MethodName) method_4_code 4 ((Option.some (Jvm.ClassFile.FieldType.object "java/lang/String"))) [] rmStr #[.int c0, .int c1, .int c2, .int 0] [] h0 (QB Z 0 (own_f c0 c1 c2) h0) := by
  refine W.MetW.mk (ls0 := #[.val (.int c0), .val (.int c1), .val (.int c2), .val (.int (0 : Int32))]) [] (plainFor_of_name pn_com_example_broker_broker_Utf8OrderComparePinLaw) (fun m => by first | (simp [entryFrame, mkF, argsToLocals, Value.category]; done) | rfl) ?_
  intro p e s m below meth c s₁ hml hret hnm hlk hss P0
  show W.Go p.tables e below _ (s₁.setTop (mkF m 0 #[.val (.int c0), .val (.int c1), .val (.int c2), .val (.int (0 : Int32))] []))
  refine W.g_iloadN (pc1 := 1) P0.q d2_0 rfl rfl ?_
  refine W.g_ifN (pc2 := 4) P0.q d2_1 rfl (by decide) ?_
  refine P0.newO (pc1 := 7) (wd hw (k := 8) rfl) (wd hw (k := 9) rfl) (wd hw (k := 10) rfl) (by decide) (by decide) d2_4 rfl ?_
  intro T138 h138 x138 g138 P138 E138 A138 D138 U138
  refine W.g_dup (pc1 := 8) P138.q d2_7 rfl rfl ?_
  refine W.g_iconst (pc1 := 9) (v := (0 : Int32)) P138.q d2_8 (by decide) rfl ?_
  have Fv0 : Fld Z h138 x138 "java/lang/String" "value" "[B" .null := D138 (Or.inr (wd hw (k := 24) rfl)) (ty := .array .byte) (by decide)
  have Fc0 : Fld Z h138 x138 "java/lang/String" "coder" "B" (.int 0) := D138 (Or.inr (wd hw (k := 25) rfl)) (ty := .byte) (by decide)
  have Sx0 := Safe.ext (EL := ownEL) E138 P0.chv (Safe.new (Nat.le_of_eq g138.symm))
  refine P138.newP (pc1 := 11) (cap := 0) (wd hw (k := 11) rfl) (by decide) (by decide) (by decide) (by decide) (by decide) d2_9 rfl ?_
  intro T139 h139 x139 k139 g139 P139 E139 V139
  have hne : x138 ≠ x139 := Nat.ne_of_lt (by rw [g139]; exact A138.lt)
  have Ex0 := A138.ext E139
  have Fv1 := Fv0.ext E139
  have Fc1 := Fc0.ext E139
  have Sx1 := Safe.ext E139 P138.chv Sx0
  refine P139.callNW (pc1 := 14) rfl (wd hw (k := 12) rfl) (wd hw (k := 13) rfl) (wd hw (k := 14) rfl) (by decide) (W.MetW.pay (W := 1) (nw1 l Z a0 hw wS hEL x138 x139 k139 _ _ h139 Ex0 _ _ Fv1 Fc1 V139) P139 hEL (allS ⟨Ex0.lt, Sx1⟩ all0) (wd hw (k := 14) rfl) (wd hw (k := 10) rfl) (by decide) (by decide)) (argsL := [(.ref x139)]) (st0 := [(.ref x138)]) (lenOf pd_AC_R_V rfl) rfl rfl (Nat.le_of_eq rfl) (by rw [hml]; rfl) (by decide) (by decide) (fun _ _ _ q => q.2.1.up P139.sz (allS (Or.inr (by rw [g138]; exact P0.sz)) all0)) d2_11 rfl ?_
  intro v140 T140 h140 L140 q140 P140 R140
  obtain ⟨rfl, f140, K140, S140⟩ := q140
  show W.Go p.tables e below _ (T140.setTop (mkF m 14 #[.val (.int c0), .val (.int c1), .val (.int c2), .val (.int (0 : Int32))] [(.ref x138)]))
  exact P140.retAW hEL hlk hret rfl rfl rfl d2_14 (by decide) (by decide) ⟨x138, rfl, P140.fr, P140.ext0, S140.congr (fun i q => absurd q (Nat.not_lt_zero i))⟩
set_option maxRecDepth 65536 in
set_option maxHeartbeats 40000000 in
theorem c_str1 (l : Launch) (Z : State) (a0 : Array Value) (hw : ∀ d ∈ tables_1, d.before a0 Z = true) (wS : ∀ a ∈ Bundle.stringAtoms, a.before a0 Z = true) (hEL : EW Z a0 ownEL) (c0 c1 c2 : Int32) (b0 : ChI c0) (b1 : ChI c1) (b2 : ChI c2) (h0 : Heap) (EZ : Ext Z.heap h0) (zc : Int32) (fm : Value) (US : UST Z zc fm) : W.MetW l Z ownEL (⟨"com/example/broker/broker/Utf8OrderComparePinLaw", "str", "(CCCI)Ljava/lang/String;"⟩ : MethodName) method_4_code 4 ((Option.some (Jvm.ClassFile.FieldType.object "java/lang/String"))) [] rmStr #[.int c0, .int c1, .int c2, .int 1] [] h0 (QB Z 1 (own_f c0 c1 c2) h0) := by
  refine W.MetW.mk (ls0 := #[.val (.int c0), .val (.int c1), .val (.int c2), .val (.int (1 : Int32))]) [] (plainFor_of_name pn_com_example_broker_broker_Utf8OrderComparePinLaw) (fun m => by first | (simp [entryFrame, mkF, argsToLocals, Value.category]; done) | rfl) ?_
  intro p e s m below meth c s₁ hml hret hnm hlk hss P0
  show W.Go p.tables e below _ (s₁.setTop (mkF m 0 #[.val (.int c0), .val (.int c1), .val (.int c2), .val (.int (1 : Int32))] []))
  refine W.g_iloadN (pc1 := 1) P0.q d2_0 rfl rfl ?_
  refine W.g_ifY (pc1 := 15) P0.q d2_1 (by decide) rfl (by decide) ?_
  refine W.g_iloadN (pc1 := 16) P0.q d2_15 rfl rfl ?_
  refine W.g_iconst (pc1 := 17) (v := (1 : Int32)) P0.q d2_16 (by decide) rfl ?_
  refine W.g_cmpN (pc2 := 20) P0.q d2_17 rfl (by decide) ?_
  refine P0.newO (pc1 := 23) (wd hw (k := 8) rfl) (wd hw (k := 9) rfl) (wd hw (k := 10) rfl) (by decide) (by decide) d2_20 rfl ?_
  intro T141 h141 x141 g141 P141 E141 A141 D141 U141
  refine W.g_dup (pc1 := 24) P141.q d2_23 rfl rfl ?_
  refine W.g_iconst (pc1 := 25) (v := (1 : Int32)) P141.q d2_24 (by decide) rfl ?_
  have Fv0 : Fld Z h141 x141 "java/lang/String" "value" "[B" .null := D141 (Or.inr (wd hw (k := 24) rfl)) (ty := .array .byte) (by decide)
  have Fc0 : Fld Z h141 x141 "java/lang/String" "coder" "B" (.int 0) := D141 (Or.inr (wd hw (k := 25) rfl)) (ty := .byte) (by decide)
  have Sx0 := Safe.ext (EL := ownEL) E141 P0.chv (Safe.new (Nat.le_of_eq g141.symm))
  refine P141.newP (pc1 := 27) (cap := 1) (wd hw (k := 11) rfl) (by decide) (by decide) (by decide) (by decide) (by decide) d2_25 rfl ?_
  intro T142 h142 x142 k142 g142 P142 E142 V142
  have hne : x141 ≠ x142 := Nat.ne_of_lt (by rw [g142]; exact A141.lt)
  have Ex0 := A141.ext E142
  have Fv1 := Fv0.ext E142
  have Fc1 := Fc0.ext E142
  have Sx1 := Safe.ext E142 P141.chv Sx0
  refine W.g_dup (pc1 := 28) P142.q d2_27 rfl rfl ?_
  refine W.g_iconst (pc1 := 29) (v := (0 : Int32)) P142.q d2_28 (by decide) rfl ?_
  refine W.g_iloadN (pc1 := 30) P142.q d2_29 rfl rfl ?_
  refine P142.stC (pc1 := 31) (i := 0) V142 (by decide) (by decide) (Nat.le_of_ble_eq_true rfl) rfl (Or.inr (by rw [g142]; exact P141.sz)) (Safe.arv P142.al V142 (by decide)) d2_30 rfl ?_
  intro T143 h143 P143 W143 V143
  have Ex143 := Ex0.wr W143
  have Fv143 := Fv1.other W143 (Or.inl hne)
  have Fc143 := Fc1.other W143 (Or.inl hne)
  have Sx143 := Safe.wr W143 (Safe.arv P142.al V142 (by decide)) P142.chv Sx1
  simp only [List.replicate, List.set, own_narc b0, own_narc b1, own_narc b2] at V143
  have Aq : W.Arg Z h143 x142 k142 .char 1 (own_f c0 c1 c2) := W.Arg.of 1 V143 rfl (by decide) (fun i hi => match i, hi with | 0, _ => rfl)
  have hbq : ∀ i, i < 1 → ¬ own_f c0 c1 c2 i < 0 ∧ ¬ (65535 : Int32) < own_f c0 c1 c2 i := fun i hi => match i, hi with | 0, _ => b0
  refine P143.callN (pc1 := 34) rfl (wd hw (k := 12) rfl) (wd hw (k := 13) rfl) (wd hw (k := 14) rfl) (by decide) (W.MetN.pay (W := 1) (nwu1 l Z a0 hw x141 x142 k142 1 _ (by decide) (by decide) hbq h143 Ex143 _ _ Fv143 Fc143 Aq (P143.extZ EZ all0) (by rw [g141]; exact Nat.le_trans EZ.1 P0.sz) zc fm US) P143 (wd hw (k := 14) rfl) (wd hw (k := 10) rfl) (by decide) (by decide)) (argsL := [(.ref x142)]) (st0 := [(.ref x141)]) (lenOf pd_AC_R_V rfl) rfl rfl (Nat.le_of_eq rfl) (by rw [hml]; rfl) (by decide) (by decide) (fun _ _ _ q => ⟨q.2.1.up P143.sz (allS (Or.inr (by rw [g141]; exact P0.sz)) all0), CHr.keep q.2.2.1 (sfS Sx143 sf0) P143.chv⟩) d2_31 rfl ?_
  intro v144 T144 h144 L144 q144 P144
  obtain ⟨rfl, f144, K144, S144⟩ := q144
  show W.Go p.tables e below _ (T144.setTop (mkF m 34 #[.val (.int c0), .val (.int c1), .val (.int c2), .val (.int (1 : Int32))] [(.ref x141)]))
  exact P144.retAW hEL hlk hret rfl rfl rfl d2_34 (by decide) (by decide) ⟨x141, rfl, P144.fr, P144.ext0, S144⟩
set_option maxRecDepth 65536 in
set_option maxHeartbeats 40000000 in
theorem c_str2 (l : Launch) (Z : State) (a0 : Array Value) (hw : ∀ d ∈ tables_1, d.before a0 Z = true) (wS : ∀ a ∈ Bundle.stringAtoms, a.before a0 Z = true) (hEL : EW Z a0 ownEL) (c0 c1 c2 : Int32) (b0 : ChI c0) (b1 : ChI c1) (b2 : ChI c2) (h0 : Heap) (EZ : Ext Z.heap h0) (zc : Int32) (fm : Value) (US : UST Z zc fm) : W.MetW l Z ownEL (⟨"com/example/broker/broker/Utf8OrderComparePinLaw", "str", "(CCCI)Ljava/lang/String;"⟩ : MethodName) method_4_code 4 ((Option.some (Jvm.ClassFile.FieldType.object "java/lang/String"))) [] rmStr #[.int c0, .int c1, .int c2, .int 2] [] h0 (QB Z 2 (own_f c0 c1 c2) h0) := by
  refine W.MetW.mk (ls0 := #[.val (.int c0), .val (.int c1), .val (.int c2), .val (.int (2 : Int32))]) [] (plainFor_of_name pn_com_example_broker_broker_Utf8OrderComparePinLaw) (fun m => by first | (simp [entryFrame, mkF, argsToLocals, Value.category]; done) | rfl) ?_
  intro p e s m below meth c s₁ hml hret hnm hlk hss P0
  show W.Go p.tables e below _ (s₁.setTop (mkF m 0 #[.val (.int c0), .val (.int c1), .val (.int c2), .val (.int (2 : Int32))] []))
  refine W.g_iloadN (pc1 := 1) P0.q d2_0 rfl rfl ?_
  refine W.g_ifY (pc1 := 15) P0.q d2_1 (by decide) rfl (by decide) ?_
  refine W.g_iloadN (pc1 := 16) P0.q d2_15 rfl rfl ?_
  refine W.g_iconst (pc1 := 17) (v := (1 : Int32)) P0.q d2_16 (by decide) rfl ?_
  refine W.g_cmpY (pc1 := 35) P0.q d2_17 (by decide) rfl (by decide) ?_
  refine W.g_iloadN (pc1 := 36) P0.q d2_35 rfl rfl ?_
  refine W.g_iconst (pc1 := 37) (v := (2 : Int32)) P0.q d2_36 (by decide) rfl ?_
  refine W.g_cmpN (pc2 := 40) P0.q d2_37 rfl (by decide) ?_
  refine P0.newO (pc1 := 43) (wd hw (k := 8) rfl) (wd hw (k := 9) rfl) (wd hw (k := 10) rfl) (by decide) (by decide) d2_40 rfl ?_
  intro T145 h145 x145 g145 P145 E145 A145 D145 U145
  refine W.g_dup (pc1 := 44) P145.q d2_43 rfl rfl ?_
  refine W.g_iconst (pc1 := 45) (v := (2 : Int32)) P145.q d2_44 (by decide) rfl ?_
  have Fv0 : Fld Z h145 x145 "java/lang/String" "value" "[B" .null := D145 (Or.inr (wd hw (k := 24) rfl)) (ty := .array .byte) (by decide)
  have Fc0 : Fld Z h145 x145 "java/lang/String" "coder" "B" (.int 0) := D145 (Or.inr (wd hw (k := 25) rfl)) (ty := .byte) (by decide)
  have Sx0 := Safe.ext (EL := ownEL) E145 P0.chv (Safe.new (Nat.le_of_eq g145.symm))
  refine P145.newP (pc1 := 47) (cap := 2) (wd hw (k := 11) rfl) (by decide) (by decide) (by decide) (by decide) (by decide) d2_45 rfl ?_
  intro T146 h146 x146 k146 g146 P146 E146 V146
  have hne : x145 ≠ x146 := Nat.ne_of_lt (by rw [g146]; exact A145.lt)
  have Ex0 := A145.ext E146
  have Fv1 := Fv0.ext E146
  have Fc1 := Fc0.ext E146
  have Sx1 := Safe.ext E146 P145.chv Sx0
  refine W.g_dup (pc1 := 48) P146.q d2_47 rfl rfl ?_
  refine W.g_iconst (pc1 := 49) (v := (0 : Int32)) P146.q d2_48 (by decide) rfl ?_
  refine W.g_iloadN (pc1 := 50) P146.q d2_49 rfl rfl ?_
  refine P146.stC (pc1 := 51) (i := 0) V146 (by decide) (by decide) (Nat.le_of_ble_eq_true rfl) rfl (Or.inr (by rw [g146]; exact P145.sz)) (Safe.arv P146.al V146 (by decide)) d2_50 rfl ?_
  intro T147 h147 P147 W147 V147
  have Ex147 := Ex0.wr W147
  have Fv147 := Fv1.other W147 (Or.inl hne)
  have Fc147 := Fc1.other W147 (Or.inl hne)
  have Sx147 := Safe.wr W147 (Safe.arv P146.al V146 (by decide)) P146.chv Sx1
  refine W.g_dup (pc1 := 52) P147.q d2_51 rfl rfl ?_
  refine W.g_iconst (pc1 := 53) (v := (1 : Int32)) P147.q d2_52 (by decide) rfl ?_
  refine W.g_iloadN (pc1 := 54) P147.q d2_53 rfl rfl ?_
  refine P147.stC (pc1 := 55) (i := 1) V147 (by decide) (by decide) (Nat.le_of_ble_eq_true rfl) rfl (Or.inr (by rw [g146]; exact P145.sz)) (Safe.arv P147.al V147 (by decide)) d2_54 rfl ?_
  intro T148 h148 P148 W148 V148
  have Ex148 := Ex147.wr W148
  have Fv148 := Fv147.other W148 (Or.inl hne)
  have Fc148 := Fc147.other W148 (Or.inl hne)
  have Sx148 := Safe.wr W148 (Safe.arv P147.al V147 (by decide)) P147.chv Sx147
  simp only [List.replicate, List.set, own_narc b0, own_narc b1, own_narc b2] at V148
  have Aq : W.Arg Z h148 x146 k146 .char 2 (own_f c0 c1 c2) := W.Arg.of 2 V148 rfl (by decide) (fun i hi => match i, hi with | 0, _ => rfl | 1, _ => rfl)
  have hbq : ∀ i, i < 2 → ¬ own_f c0 c1 c2 i < 0 ∧ ¬ (65535 : Int32) < own_f c0 c1 c2 i := fun i hi => match i, hi with | 0, _ => b0 | 1, _ => b1
  refine P148.callN (pc1 := 58) rfl (wd hw (k := 12) rfl) (wd hw (k := 13) rfl) (wd hw (k := 14) rfl) (by decide) (W.MetN.pay (W := 1) (nwu1 l Z a0 hw x145 x146 k146 2 _ (by decide) (by decide) hbq h148 Ex148 _ _ Fv148 Fc148 Aq (P148.extZ EZ all0) (by rw [g145]; exact Nat.le_trans EZ.1 P0.sz) zc fm US) P148 (wd hw (k := 14) rfl) (wd hw (k := 10) rfl) (by decide) (by decide)) (argsL := [(.ref x146)]) (st0 := [(.ref x145)]) (lenOf pd_AC_R_V rfl) rfl rfl (Nat.le_of_eq rfl) (by rw [hml]; rfl) (by decide) (by decide) (fun _ _ _ q => ⟨q.2.1.up P148.sz (allS (Or.inr (by rw [g145]; exact P0.sz)) all0), CHr.keep q.2.2.1 (sfS Sx148 sf0) P148.chv⟩) d2_55 rfl ?_
  intro v149 T149 h149 L149 q149 P149
  obtain ⟨rfl, f149, K149, S149⟩ := q149
  show W.Go p.tables e below _ (T149.setTop (mkF m 58 #[.val (.int c0), .val (.int c1), .val (.int c2), .val (.int (2 : Int32))] [(.ref x145)]))
  exact P149.retAW hEL hlk hret rfl rfl rfl d2_58 (by decide) (by decide) ⟨x145, rfl, P149.fr, P149.ext0, S149⟩
set_option maxRecDepth 65536 in
set_option maxHeartbeats 40000000 in
theorem c_str3 (l : Launch) (Z : State) (a0 : Array Value) (hw : ∀ d ∈ tables_1, d.before a0 Z = true) (wS : ∀ a ∈ Bundle.stringAtoms, a.before a0 Z = true) (hEL : EW Z a0 ownEL) (c0 c1 c2 : Int32) (b0 : ChI c0) (b1 : ChI c1) (b2 : ChI c2) (h0 : Heap) (EZ : Ext Z.heap h0) (zc : Int32) (fm : Value) (US : UST Z zc fm) : W.MetW l Z ownEL (⟨"com/example/broker/broker/Utf8OrderComparePinLaw", "str", "(CCCI)Ljava/lang/String;"⟩ : MethodName) method_4_code 4 ((Option.some (Jvm.ClassFile.FieldType.object "java/lang/String"))) [] rmStr #[.int c0, .int c1, .int c2, .int 3] [] h0 (QB Z 3 (own_f c0 c1 c2) h0) := by
  refine W.MetW.mk (ls0 := #[.val (.int c0), .val (.int c1), .val (.int c2), .val (.int (3 : Int32))]) [] (plainFor_of_name pn_com_example_broker_broker_Utf8OrderComparePinLaw) (fun m => by first | (simp [entryFrame, mkF, argsToLocals, Value.category]; done) | rfl) ?_
  intro p e s m below meth c s₁ hml hret hnm hlk hss P0
  show W.Go p.tables e below _ (s₁.setTop (mkF m 0 #[.val (.int c0), .val (.int c1), .val (.int c2), .val (.int (3 : Int32))] []))
  refine W.g_iloadN (pc1 := 1) P0.q d2_0 rfl rfl ?_
  refine W.g_ifY (pc1 := 15) P0.q d2_1 (by decide) rfl (by decide) ?_
  refine W.g_iloadN (pc1 := 16) P0.q d2_15 rfl rfl ?_
  refine W.g_iconst (pc1 := 17) (v := (1 : Int32)) P0.q d2_16 (by decide) rfl ?_
  refine W.g_cmpY (pc1 := 35) P0.q d2_17 (by decide) rfl (by decide) ?_
  refine W.g_iloadN (pc1 := 36) P0.q d2_35 rfl rfl ?_
  refine W.g_iconst (pc1 := 37) (v := (2 : Int32)) P0.q d2_36 (by decide) rfl ?_
  refine W.g_cmpY (pc1 := 59) P0.q d2_37 (by decide) rfl (by decide) ?_
  refine P0.newO (pc1 := 62) (wd hw (k := 8) rfl) (wd hw (k := 9) rfl) (wd hw (k := 10) rfl) (by decide) (by decide) d2_59 rfl ?_
  intro T150 h150 x150 g150 P150 E150 A150 D150 U150
  refine W.g_dup (pc1 := 63) P150.q d2_62 rfl rfl ?_
  refine W.g_iconst (pc1 := 64) (v := (3 : Int32)) P150.q d2_63 (by decide) rfl ?_
  have Fv0 : Fld Z h150 x150 "java/lang/String" "value" "[B" .null := D150 (Or.inr (wd hw (k := 24) rfl)) (ty := .array .byte) (by decide)
  have Fc0 : Fld Z h150 x150 "java/lang/String" "coder" "B" (.int 0) := D150 (Or.inr (wd hw (k := 25) rfl)) (ty := .byte) (by decide)
  have Sx0 := Safe.ext (EL := ownEL) E150 P0.chv (Safe.new (Nat.le_of_eq g150.symm))
  refine P150.newP (pc1 := 66) (cap := 3) (wd hw (k := 11) rfl) (by decide) (by decide) (by decide) (by decide) (by decide) d2_64 rfl ?_
  intro T151 h151 x151 k151 g151 P151 E151 V151
  have hne : x150 ≠ x151 := Nat.ne_of_lt (by rw [g151]; exact A150.lt)
  have Ex0 := A150.ext E151
  have Fv1 := Fv0.ext E151
  have Fc1 := Fc0.ext E151
  have Sx1 := Safe.ext E151 P150.chv Sx0
  refine W.g_dup (pc1 := 67) P151.q d2_66 rfl rfl ?_
  refine W.g_iconst (pc1 := 68) (v := (0 : Int32)) P151.q d2_67 (by decide) rfl ?_
  refine W.g_iloadN (pc1 := 69) P151.q d2_68 rfl rfl ?_
  refine P151.stC (pc1 := 70) (i := 0) V151 (by decide) (by decide) (Nat.le_of_ble_eq_true rfl) rfl (Or.inr (by rw [g151]; exact P150.sz)) (Safe.arv P151.al V151 (by decide)) d2_69 rfl ?_
  intro T152 h152 P152 W152 V152
  have Ex152 := Ex0.wr W152
  have Fv152 := Fv1.other W152 (Or.inl hne)
  have Fc152 := Fc1.other W152 (Or.inl hne)
  have Sx152 := Safe.wr W152 (Safe.arv P151.al V151 (by decide)) P151.chv Sx1
  refine W.g_dup (pc1 := 71) P152.q d2_70 rfl rfl ?_
  refine W.g_iconst (pc1 := 72) (v := (1 : Int32)) P152.q d2_71 (by decide) rfl ?_
  refine W.g_iloadN (pc1 := 73) P152.q d2_72 rfl rfl ?_
  refine P152.stC (pc1 := 74) (i := 1) V152 (by decide) (by decide) (Nat.le_of_ble_eq_true rfl) rfl (Or.inr (by rw [g151]; exact P150.sz)) (Safe.arv P152.al V152 (by decide)) d2_73 rfl ?_
  intro T153 h153 P153 W153 V153
  have Ex153 := Ex152.wr W153
  have Fv153 := Fv152.other W153 (Or.inl hne)
  have Fc153 := Fc152.other W153 (Or.inl hne)
  have Sx153 := Safe.wr W153 (Safe.arv P152.al V152 (by decide)) P152.chv Sx152
  refine W.g_dup (pc1 := 75) P153.q d2_74 rfl rfl ?_
  refine W.g_iconst (pc1 := 76) (v := (2 : Int32)) P153.q d2_75 (by decide) rfl ?_
  refine W.g_iloadN (pc1 := 77) P153.q d2_76 rfl rfl ?_
  refine P153.stC (pc1 := 78) (i := 2) V153 (by decide) (by decide) (Nat.le_of_ble_eq_true rfl) rfl (Or.inr (by rw [g151]; exact P150.sz)) (Safe.arv P153.al V153 (by decide)) d2_77 rfl ?_
  intro T154 h154 P154 W154 V154
  have Ex154 := Ex153.wr W154
  have Fv154 := Fv153.other W154 (Or.inl hne)
  have Fc154 := Fc153.other W154 (Or.inl hne)
  have Sx154 := Safe.wr W154 (Safe.arv P153.al V153 (by decide)) P153.chv Sx153
  simp only [List.replicate, List.set, own_narc b0, own_narc b1, own_narc b2] at V154
  have Aq : W.Arg Z h154 x151 k151 .char 3 (own_f c0 c1 c2) := W.Arg.of 3 V154 rfl (by decide) (fun i hi => match i, hi with | 0, _ => rfl | 1, _ => rfl | 2, _ => rfl)
  have hbq : ∀ i, i < 3 → ¬ own_f c0 c1 c2 i < 0 ∧ ¬ (65535 : Int32) < own_f c0 c1 c2 i := fun i hi => match i, hi with | 0, _ => b0 | 1, _ => b1 | 2, _ => b2
  refine P154.callN (pc1 := 81) rfl (wd hw (k := 12) rfl) (wd hw (k := 13) rfl) (wd hw (k := 14) rfl) (by decide) (W.MetN.pay (W := 1) (nwu1 l Z a0 hw x150 x151 k151 3 _ (by decide) (by decide) hbq h154 Ex154 _ _ Fv154 Fc154 Aq (P154.extZ EZ all0) (by rw [g150]; exact Nat.le_trans EZ.1 P0.sz) zc fm US) P154 (wd hw (k := 14) rfl) (wd hw (k := 10) rfl) (by decide) (by decide)) (argsL := [(.ref x151)]) (st0 := [(.ref x150)]) (lenOf pd_AC_R_V rfl) rfl rfl (Nat.le_of_eq rfl) (by rw [hml]; rfl) (by decide) (by decide) (fun _ _ _ q => ⟨q.2.1.up P154.sz (allS (Or.inr (by rw [g150]; exact P0.sz)) all0), CHr.keep q.2.2.1 (sfS Sx154 sf0) P154.chv⟩) d2_78 rfl ?_
  intro v155 T155 h155 L155 q155 P155
  obtain ⟨rfl, f155, K155, S155⟩ := q155
  show W.Go p.tables e below _ (T155.setTop (mkF m 81 #[.val (.int c0), .val (.int c1), .val (.int c2), .val (.int (3 : Int32))] [(.ref x150)]))
  exact P155.retAW hEL hlk hret rfl rfl rfl d2_81 (by decide) (by decide) ⟨x150, rfl, P155.fr, P155.ext0, S155⟩
theorem c_str (l : Launch) (Z : State) (a0 : Array Value) (hw : ∀ d ∈ tables_1, d.before a0 Z = true) (wS : ∀ a ∈ Bundle.stringAtoms, a.before a0 Z = true) (hEL : EW Z a0 ownEL) (c0 c1 c2 : Int32) (b0 : ChI c0) (b1 : ChI c1) (b2 : ChI c2) (c : Nat) (hc : c ≤ 3) (h0 : Heap) (EZ : Ext Z.heap h0) (zc : Int32) (fm : Value) (US : UST Z zc fm) : W.MetW l Z ownEL (⟨"com/example/broker/broker/Utf8OrderComparePinLaw", "str", "(CCCI)Ljava/lang/String;"⟩ : MethodName) method_4_code 4 ((Option.some (Jvm.ClassFile.FieldType.object "java/lang/String"))) [] rmStr #[.int c0, .int c1, .int c2, .int (Int32.ofNat c)] [] h0 (QB Z c (own_f c0 c1 c2) h0) :=
  match c, hc with
  | 0, _ => c_str0 l Z a0 hw wS hEL c0 c1 c2 b0 b1 b2 h0 EZ zc fm US
  | 1, _ => c_str1 l Z a0 hw wS hEL c0 c1 c2 b0 b1 b2 h0 EZ zc fm US
  | 2, _ => c_str2 l Z a0 hw wS hEL c0 c1 c2 b0 b1 b2 h0 EZ zc fm US
  | 3, _ => c_str3 l Z a0 hw wS hEL c0 c1 c2 b0 b1 b2 h0 EZ zc fm US
set_option maxRecDepth 65536 in
set_option maxHeartbeats 40000000 in
theorem c_point (l : Launch) (Z : State) (a0 : Array Value) (hw : ∀ d ∈ tables_1, d.before a0 Z = true) (t : Addr) (kb : ClassId) (f : Nat → Int32) (n i : Nat) (hn : n ≤ 3) (hi : i < 100) (h0 : Heap) (V : W.Arg Z h0 t kb .char 3 f) : W.MetN l Z (⟨"com/example/broker/broker/Utf8OrderComparePinLaw", "point", "([CII)I"⟩ : MethodName) method_5_code 5 ((Option.some Jvm.ClassFile.FieldType.int)) [] ({ frames := 0, cells := 0, slots := 0, locals := 0 } : Room) #[.ref t, .int (Int32.ofNat n), .int (Int32.ofNat i)]  h0 (W.Pure (some (.int (own_pt n f i))) h0) := by
  refine W.MetN.mk (ls0 := #[.val (.ref t), .val (.int (Int32.ofNat n)), .val (.int (Int32.ofNat i)), .unset, .unset]) [] (plainFor_of_name pn_com_example_broker_broker_Utf8OrderComparePinLaw) (fun m => by first | (simp [entryFrame, mkF, argsToLocals, Value.category]; done) | rfl) ?_
  intro p e s m below meth c s₁ hml hret hnm hlk P0
  show W.Go p.tables e below _ (s₁.setTop (mkF m 0 #[.val (.ref t), .val (.int (Int32.ofNat n)), .val (.int (Int32.ofNat i)), .unset, .unset] []))
  refine W.g_iloadN (pc1 := 1) P0.q d7_0 rfl rfl ?_
  refine W.g_iloadN (pc1 := 2) P0.q d7_1 rfl rfl ?_
  refine W.g_cmp (pc1 := 7) (pc2 := 5) P0.q d7_2 (by decide) rfl rfl (fun (h1 : (Int32.ofNat i) < (Int32.ofNat n)) => ?_) (fun (h1 : ¬ ((Int32.ofNat i) < (Int32.ofNat n))) => ?_)
  · have hl : i < n := (W.lt32 (by omega) (by omega)).mp h1
    refine W.g_aloadN (pc1 := 8) P0.q d7_7 rfl rfl rfl ?_
    refine W.g_iloadN (pc1 := 9) P0.q d7_8 rfl rfl ?_
    refine P0.ldCg (pc1 := 10) V (i := i) (by omega) d7_9 rfl ?_
    refine W.g_istoreN (pc1 := 11) (ls2 := #[.val (.ref t), .val (.int (Int32.ofNat n)), .val (.int (Int32.ofNat i)), .val (.int (f i)), .unset]) P0.q d7_10 rfl rfl ?_
    refine W.g_iloadN (pc1 := 12) P0.q d7_11 rfl rfl ?_
    refine P0.ldcI (pc1 := 14) (wd hw (k := 73) rfl) d7_12 rfl ?_
    refine W.g_cmp (pc1 := 68) (pc2 := 17) P0.q d7_14 (by decide) rfl rfl (fun (k14 : (f i) < (55296 : Int32)) => ?_) (fun (k14 : ¬ ((f i) < (55296 : Int32))) => ?_)
    · refine W.g_iloadN (pc1 := 69) P0.q d7_68 rfl rfl ?_
      exact P0.retIN hlk hret d7_69 (by decide) (by decide) ⟨by rw [own_pt, if_pos hl, if_neg (fun q => q.1.1 k14)], rfl, rfl⟩
    · refine W.g_iloadN (pc1 := 18) P0.q d7_17 rfl rfl ?_
      refine P0.ldcI (pc1 := 20) (wd hw (k := 116) rfl) d7_18 rfl ?_
      refine W.g_cmp (pc1 := 68) (pc2 := 23) P0.q d7_20 (by decide) rfl rfl (fun (k20 : (56319 : Int32) < (f i)) => ?_) (fun (k20 : ¬ ((56319 : Int32) < (f i))) => ?_)
      · refine W.g_iloadN (pc1 := 69) P0.q d7_68 rfl rfl ?_
        exact P0.retIN hlk hret d7_69 (by decide) (by decide) ⟨by rw [own_pt, if_pos hl, if_neg (fun q => q.1.2 k20)], rfl, rfl⟩
      · refine W.g_iloadN (pc1 := 24) P0.q d7_23 rfl rfl ?_
        refine W.g_iconst (pc1 := 25) (v := (1 : Int32)) P0.q d7_24 (by decide) rfl ?_
        refine W.g_iadd (pc1 := 26) P0.q d7_25 rfl ?_
        rw [add1]
        refine W.g_iloadN (pc1 := 27) P0.q d7_26 rfl rfl ?_
        refine W.g_cmp (pc1 := 68) (pc2 := 30) P0.q d7_27 (by decide) rfl rfl (fun (k27 : ¬ (Int32.ofNat (i + 1)) < (Int32.ofNat n)) => ?_) (fun (k27 : ¬ (¬ (Int32.ofNat (i + 1)) < (Int32.ofNat n))) => ?_)
        · refine W.g_iloadN (pc1 := 69) P0.q d7_68 rfl rfl ?_
          exact P0.retIN hlk hret d7_69 (by decide) (by decide) ⟨by rw [own_pt, if_pos hl, if_neg (fun q => k27 ((W.lt32 (by omega) (by omega)).mpr q.2.1))], rfl, rfl⟩
        · have hl2 : i + 1 < n := (W.lt32 (by omega) (by omega)).mp (Decidable.byContradiction k27)
          refine W.g_aloadN (pc1 := 31) P0.q d7_30 rfl rfl rfl ?_
          refine W.g_iloadN (pc1 := 32) P0.q d7_31 rfl rfl ?_
          refine W.g_iconst (pc1 := 33) (v := (1 : Int32)) P0.q d7_32 (by decide) rfl ?_
          refine W.g_iadd (pc1 := 34) P0.q d7_33 rfl ?_
          rw [add1]
          refine P0.ldCg (pc1 := 35) V (i := i + 1) (by omega) d7_34 rfl ?_
          refine W.g_istore (pc1 := 37) (ls2 := #[.val (.ref t), .val (.int (Int32.ofNat n)), .val (.int (Int32.ofNat i)), .val (.int (f i)), .val (.int (f (i + 1)))]) P0.q d7_35 rfl rfl ?_
          refine W.g_iload (pc1 := 39) P0.q d7_37 rfl rfl ?_
          refine P0.ldcI (pc1 := 41) (wd hw (k := 96) rfl) d7_39 rfl ?_
          refine W.g_cmp (pc1 := 68) (pc2 := 44) P0.q d7_41 (by decide) rfl rfl (fun (k41 : (f (i + 1)) < (56320 : Int32)) => ?_) (fun (k41 : ¬ ((f (i + 1)) < (56320 : Int32))) => ?_)
          · refine W.g_iloadN (pc1 := 69) P0.q d7_68 rfl rfl ?_
            exact P0.retIN hlk hret d7_69 (by decide) (by decide) ⟨by rw [own_pt, if_pos hl, if_neg (fun q => q.2.2.1 k41)], rfl, rfl⟩
          · refine W.g_iload (pc1 := 46) P0.q d7_44 rfl rfl ?_
            refine P0.ldcI (pc1 := 48) (wd hw (k := 133) rfl) d7_46 rfl ?_
            refine W.g_cmp (pc1 := 68) (pc2 := 51) P0.q d7_48 (by decide) rfl rfl (fun (k48 : (57343 : Int32) < (f (i + 1))) => ?_) (fun (k48 : ¬ ((57343 : Int32) < (f (i + 1)))) => ?_)
            · refine W.g_iloadN (pc1 := 69) P0.q d7_68 rfl rfl ?_
              exact P0.retIN hlk hret d7_69 (by decide) (by decide) ⟨by rw [own_pt, if_pos hl, if_neg (fun q => q.2.2.2 k48)], rfl, rfl⟩
            · refine W.g_iloadN (pc1 := 52) P0.q d7_51 rfl rfl ?_
              refine P0.ldcI (pc1 := 54) (wd hw (k := 73) rfl) d7_52 rfl ?_
              refine W.g_isub (pc1 := 55) P0.q d7_54 rfl ?_
              refine W.g_bipush (pc1 := 57) (v := (10 : Int32)) P0.q d7_55 (by decide) rfl ?_
              refine W.g_ishl (pc1 := 58) P0.q d7_57 rfl ?_
              refine W.g_iload (pc1 := 60) P0.q d7_58 rfl rfl ?_
              refine P0.ldcI (pc1 := 62) (wd hw (k := 96) rfl) d7_60 rfl ?_
              refine W.g_isub (pc1 := 63) P0.q d7_62 rfl ?_
              refine W.g_iadd (pc1 := 64) P0.q d7_63 rfl ?_
              refine P0.ldcI (pc1 := 66) (wd hw (k := 77) rfl) d7_64 rfl ?_
              refine W.g_iadd (pc1 := 67) P0.q d7_66 rfl ?_
              exact P0.retIN hlk hret d7_67 (by decide) (by decide) ⟨by rw [own_pt, if_pos hl, if_pos ⟨⟨k14, k20⟩, hl2, k41, k48⟩]; rfl, rfl, rfl⟩
  · refine W.g_iconst (pc1 := 6) (v := (-1 : Int32)) P0.q d7_5 (by decide) rfl ?_
    exact P0.retIN hlk hret d7_6 (by decide) (by decide) ⟨by rw [own_pt, if_neg (fun q => h1 ((W.lt32 (by omega) (by omega)).mpr q))], rfl, rfl⟩
set_option maxRecDepth 65536 in
set_option maxHeartbeats 40000000 in
theorem c_width (l : Launch) (Z : State) (a0 : Array Value) (hw : ∀ d ∈ tables_1, d.before a0 Z = true) (u : Int32) (h0 : Heap) : W.MetN l Z (⟨"com/example/broker/broker/Utf8OrderComparePinLaw", "width", "(I)I"⟩ : MethodName) method_6_code 1 ((Option.some Jvm.ClassFile.FieldType.int)) [] ({ frames := 0, cells := 0, slots := 0, locals := 0 } : Room) #[.int u]  h0 (W.Pure (some (.int (Int32.ofNat (own_w u)))) h0) := by
  refine W.MetN.mk (ls0 := #[.val (.int u)]) [] (plainFor_of_name pn_com_example_broker_broker_Utf8OrderComparePinLaw) (fun m => by first | (simp [entryFrame, mkF, argsToLocals, Value.category]; done) | rfl) ?_
  intro p e s m below meth c s₁ hml hret hnm hlk P0
  show W.Go p.tables e below _ (s₁.setTop (mkF m 0 #[.val (.int u)] []))
  refine W.g_iloadN (pc1 := 1) P0.q d17_0 rfl rfl ?_
  refine P0.ldcI (pc1 := 3) (wd hw (k := 77) rfl) d17_1 rfl ?_
  refine W.g_cmp (pc1 := 10) (pc2 := 6) P0.q d17_3 (by decide) rfl rfl (fun (h1 : u < (65536 : Int32)) => ?_) (fun (h1 : ¬ (u < (65536 : Int32))) => ?_)
  · refine W.g_iconst (pc1 := 11) (v := (1 : Int32)) P0.q d17_10 (by decide) rfl ?_
    exact P0.retIN hlk hret d17_11 (by decide) (by decide) ⟨by rw [own_w, if_pos h1]; rfl, rfl, rfl⟩
  · refine W.g_iconst (pc1 := 7) (v := (2 : Int32)) P0.q d17_6 (by decide) rfl ?_
    refine W.g_goto (pc1 := 11) P0.q d17_7 (by decide) rfl ?_
    exact P0.retIN hlk hret d17_11 (by decide) (by decide) ⟨by rw [own_w, if_neg h1]; rfl, rfl, rfl⟩
set_option maxRecDepth 65536 in
set_option maxHeartbeats 40000000 in
theorem c_cc (l : Launch) (Z : State) (a0 : Array Value) (hw : ∀ d ∈ tables_1, d.before a0 Z = true) (u : Int32) (h0 : Heap) : W.MetN l Z (⟨"java/lang/Character", "charCount", "(I)I"⟩ : MethodName) jdk_89_method_18_code 1 ((Option.some Jvm.ClassFile.FieldType.int)) [] ({ frames := 0, cells := 0, slots := 0, locals := 0 } : Room) #[.int u]  h0 (W.Pure (some (.int (Int32.ofNat (own_w u)))) h0) := by
  refine W.MetN.mk (ls0 := #[.val (.int u)]) [] (plainFor_of_name pn_java_lang_Character) (fun m => by first | (simp [entryFrame, mkF, argsToLocals, Value.category]; done) | rfl) ?_
  intro p e s m below meth c s₁ hml hret hnm hlk P0
  show W.Go p.tables e below _ (s₁.setTop (mkF m 0 #[.val (.int u)] []))
  refine W.g_iloadN (pc1 := 1) P0.q d30_0 rfl rfl ?_
  refine P0.ldcI (pc1 := 3) (wd hw (k := 132) rfl) d30_1 rfl ?_
  refine W.g_cmp (pc1 := 10) (pc2 := 6) P0.q d30_3 (by decide) rfl rfl (fun (h1 : u < (65536 : Int32)) => ?_) (fun (h1 : ¬ (u < (65536 : Int32))) => ?_)
  · refine W.g_iconst (pc1 := 11) (v := (1 : Int32)) P0.q d30_10 (by decide) rfl ?_
    exact P0.retIN hlk hret d30_11 (by decide) (by decide) ⟨by rw [own_w, if_pos h1]; rfl, rfl, rfl⟩
  · refine W.g_iconst (pc1 := 7) (v := (2 : Int32)) P0.q d30_6 (by decide) rfl ?_
    refine W.g_goto (pc1 := 11) P0.q d30_7 (by decide) rfl ?_
    exact P0.retIN hlk hret d30_11 (by decide) (by decide) ⟨by rw [own_w, if_neg h1]; rfl, rfl, rfl⟩
set_option maxRecDepth 65536 in
set_option maxHeartbeats 40000000 in
theorem c_cmp (l : Launch) (Z : State) (a0 : Array Value) (hw : ∀ d ∈ tables_1, d.before a0 Z = true) (u v : Int32) (h0 : Heap) : W.MetN l Z (⟨"com/example/broker/broker/Utf8OrderComparePinLaw", "cmp", "(II)I"⟩ : MethodName) method_8_code 2 ((Option.some Jvm.ClassFile.FieldType.int)) [] ({ frames := 0, cells := 0, slots := 0, locals := 0 } : Room) #[.int u, .int v]  h0 (W.Pure (some (.int (own_cmp u v))) h0) := by
  refine W.MetN.mk (ls0 := #[.val (.int u), .val (.int v)]) [] (plainFor_of_name pn_com_example_broker_broker_Utf8OrderComparePinLaw) (fun m => by first | (simp [entryFrame, mkF, argsToLocals, Value.category]; done) | rfl) ?_
  intro p e s m below meth c s₁ hml hret hnm hlk P0
  show W.Go p.tables e below _ (s₁.setTop (mkF m 0 #[.val (.int u), .val (.int v)] []))
  refine W.g_iloadN (pc1 := 1) P0.q d8_0 rfl rfl ?_
  refine W.g_iloadN (pc1 := 2) P0.q d8_1 rfl rfl ?_
  refine W.g_cmp (pc1 := 7) (pc2 := 5) P0.q d8_2 (by decide) rfl rfl (fun (h1 : ¬ u < v) => ?_) (fun (h1 : ¬ (¬ u < v)) => ?_)
  · refine W.g_iloadN (pc1 := 8) P0.q d8_7 rfl rfl ?_
    refine W.g_iloadN (pc1 := 9) P0.q d8_8 rfl rfl ?_
    refine W.g_cmp (pc1 := 14) (pc2 := 12) P0.q d8_9 (by decide) rfl rfl (fun (h2 : ¬ v < u) => ?_) (fun (h2 : ¬ (¬ v < u)) => ?_)
    · refine W.g_iconst (pc1 := 15) (v := (0 : Int32)) P0.q d8_14 (by decide) rfl ?_
      exact P0.retIN hlk hret d8_15 (by decide) (by decide) ⟨by rw [own_cmp, if_neg h1, if_neg h2], rfl, rfl⟩
    · refine W.g_iconst (pc1 := 13) (v := (1 : Int32)) P0.q d8_12 (by decide) rfl ?_
      exact P0.retIN hlk hret d8_13 (by decide) (by decide) ⟨by rw [own_cmp, if_neg h1, if_pos (Decidable.byContradiction h2)], rfl, rfl⟩
  · refine W.g_iconst (pc1 := 6) (v := (-1 : Int32)) P0.q d8_5 (by decide) rfl ?_
    exact P0.retIN hlk hret d8_6 (by decide) (by decide) ⟨by rw [own_cmp, if_pos (Decidable.byContradiction h1)], rfl, rfl⟩
theorem own_gt {u v : Int32} (h1 : ¬ u < v) (h2 : ¬ u = v) : v < u := by
  rw [Int32.lt_iff_toInt_lt] at h1 ⊢
  have : ¬ u.toInt = v.toInt := fun q => h2 (Int32.toInt_inj.mp q)
  omega
set_option maxRecDepth 65536 in
set_option maxHeartbeats 40000000 in
theorem c_icmp (l : Launch) (Z : State) (a0 : Array Value) (hw : ∀ d ∈ tables_1, d.before a0 Z = true) (u v : Int32) (h0 : Heap) : W.MetN l Z (⟨"java/lang/Integer", "compare", "(II)I"⟩ : MethodName) jdk_33_method_40_code 2 ((Option.some Jvm.ClassFile.FieldType.int)) [] ({ frames := 0, cells := 0, slots := 0, locals := 0 } : Room) #[.int u, .int v]  h0 (W.Pure (some (.int (own_cmp u v))) h0) := by
  refine W.MetN.mk (ls0 := #[.val (.int u), .val (.int v)]) [] (plainFor_of_name pn_java_lang_Integer) (fun m => by first | (simp [entryFrame, mkF, argsToLocals, Value.category]; done) | rfl) ?_
  intro p e s m below meth c s₁ hml hret hnm hlk P0
  show W.Go p.tables e below _ (s₁.setTop (mkF m 0 #[.val (.int u), .val (.int v)] []))
  refine W.g_iloadN (pc1 := 1) P0.q d13_0 rfl rfl ?_
  refine W.g_iloadN (pc1 := 2) P0.q d13_1 rfl rfl ?_
  refine W.g_cmp (pc1 := 9) (pc2 := 5) P0.q d13_2 (by decide) rfl rfl (fun (h1 : ¬ u < v) => ?_) (fun (h1 : ¬ (¬ u < v)) => ?_)
  · refine W.g_iloadN (pc1 := 10) P0.q d13_9 rfl rfl ?_
    refine W.g_iloadN (pc1 := 11) P0.q d13_10 rfl rfl ?_
    refine W.g_cmp (pc1 := 18) (pc2 := 14) P0.q d13_11 (by decide) rfl rfl (fun (h2 : ¬ u = v) => ?_) (fun (h2 : ¬ (¬ u = v)) => ?_)
    · refine W.g_iconst (pc1 := 19) (v := (1 : Int32)) P0.q d13_18 (by decide) rfl ?_
      exact P0.retIN hlk hret d13_19 (by decide) (by decide) ⟨by rw [own_cmp, if_neg h1, if_pos (own_gt h1 h2)], rfl, rfl⟩
    · refine W.g_iconst (pc1 := 15) (v := (0 : Int32)) P0.q d13_14 (by decide) rfl ?_
      refine W.g_goto (pc1 := 19) P0.q d13_15 (by decide) rfl ?_
      exact P0.retIN hlk hret d13_19 (by decide) (by decide) ⟨by rw [(own_cmp0 u v).mpr (Decidable.byContradiction h2)], rfl, rfl⟩
  · refine W.g_iconst (pc1 := 6) (v := (-1 : Int32)) P0.q d13_5 (by decide) rfl ?_
    refine W.g_goto (pc1 := 19) P0.q d13_6 (by decide) rfl ?_
    exact P0.retIN hlk hret d13_19 (by decide) (by decide) ⟨by rw [own_cmp, if_pos (Decidable.byContradiction h1)], rfl, rfl⟩
set_option maxRecDepth 65536 in
set_option maxHeartbeats 40000000 in
theorem c_min (l : Launch) (Z : State) (a0 : Array Value) (hw : ∀ d ∈ tables_1, d.before a0 Z = true) (x y : Nat) (hx : x < 100) (hy : y < 100) (h0 : Heap) : W.MetN l Z (⟨"java/lang/Math", "min", "(II)I"⟩ : MethodName) jdk_29_method_69_code 2 ((Option.some Jvm.ClassFile.FieldType.int)) [] ({ frames := 0, cells := 0, slots := 0, locals := 0 } : Room) #[.int (Int32.ofNat x), .int (Int32.ofNat y)]  h0 (W.Pure (some (.int (Int32.ofNat (min x y)))) h0) := by
  refine W.MetN.mk (ls0 := #[.val (.int (Int32.ofNat x)), .val (.int (Int32.ofNat y))]) [] (Jvm.Free.JP.mathPlain rfl (by decide +kernel)) (fun m => by first | (simp [entryFrame, mkF, argsToLocals, Value.category]; done) | rfl) ?_
  intro p e s m below meth c s₁ hml hret hnm hlk P0
  show W.Go p.tables e below _ (s₁.setTop (mkF m 0 #[.val (.int (Int32.ofNat x)), .val (.int (Int32.ofNat y))] []))
  refine W.g_iloadN (pc1 := 1) P0.q d12_0 rfl rfl ?_
  refine W.g_iloadN (pc1 := 2) P0.q d12_1 rfl rfl ?_
  refine W.g_cmp (pc1 := 9) (pc2 := 5) P0.q d12_2 (by decide) rfl rfl (fun (h1 : (Int32.ofNat y) < (Int32.ofNat x)) => ?_) (fun (h1 : ¬ ((Int32.ofNat y) < (Int32.ofNat x))) => ?_)
  · refine W.g_iloadN (pc1 := 10) P0.q d12_9 rfl rfl ?_
    exact P0.retIN hlk hret d12_10 (by decide) (by decide) ⟨by rw [Nat.min_eq_right (Nat.le_of_lt ((W.lt32 (by omega) (by omega)).mp h1))], rfl, rfl⟩
  · refine W.g_iloadN (pc1 := 6) P0.q d12_5 rfl rfl ?_
    refine W.g_goto (pc1 := 10) P0.q d12_6 (by decide) rfl ?_
    exact P0.retIN hlk hret d12_10 (by decide) (by decide) ⟨by rw [Nat.min_eq_left (Nat.le_of_not_lt (fun q => h1 ((W.lt32 (by omega) (by omega)).mpr q)))], rfl, rfl⟩
def own_p1 (n : Nat) (f : Nat → Int32) : Nat := own_nx n 0 (own_pt n f 0)
def own_p2 (n : Nat) (f : Nat → Int32) : Nat := own_nx n (own_p1 n f) (own_pt n f (own_p1 n f))
theorem own_nx_lt {n i : Nat} {p : Int32} (hn : n ≤ 3) (hi : i < 50) : own_nx n i p < i + 6 := by
  unfold own_nx own_w; split
  · omega
  · split <;> omega
def QPt (Z : State) (n : Nat) (f : Nat → Int32) (h0 : Heap) (v : Option Value) (h : Heap) (L : List Loc) : Prop := ∃ t kb, v = some (.ref t) ∧ W.Frw [] h0.size L ∧ Ext h0 h ∧ Arv Z h t kb .int 3 [.int (own_pt n f 0), .int (own_pt n f (own_p1 n f)), .int (own_pt n f (own_p2 n f))] (.int 0)
set_option maxRecDepth 65536 in
set_option maxHeartbeats 40000000 in
theorem c_points (l : Launch) (Z : State) (a0 : Array Value) (hw : ∀ d ∈ tables_1, d.before a0 Z = true) (c0 c1 c2 : Int32) (b0 : ChI c0) (b1 : ChI c1) (b2 : ChI c2) (n : Nat) (hn : n ≤ 3) (h0 : Heap) : W.MetN l Z (⟨"com/example/broker/broker/Utf8OrderComparePinLaw", "points", "(CCCI)[I"⟩ : MethodName) method_7_code 10 ((Option.some (Jvm.ClassFile.FieldType.array Jvm.ClassFile.FieldType.int))) [] ({ frames := 1, cells := 2, slots := 8, locals := 20 } : Room) #[.int c0, .int c1, .int c2, .int (Int32.ofNat n)]  h0 (QPt Z n (own_f c0 c1 c2) h0) := by
  refine W.MetN.mk (ls0 := #[.val (.int c0), .val (.int c1), .val (.int c2), .val (.int (Int32.ofNat n)), .unset, .unset, .unset, .unset, .unset, .unset]) [] (plainFor_of_name pn_com_example_broker_broker_Utf8OrderComparePinLaw) (fun m => by first | (simp [entryFrame, mkF, argsToLocals, Value.category]; done) | rfl) ?_
  intro p e s m below meth c s₁ hml hret hnm hlk P0
  show W.Go p.tables e below _ (s₁.setTop (mkF m 0 #[.val (.int c0), .val (.int c1), .val (.int c2), .val (.int (Int32.ofNat n)), .unset, .unset, .unset, .unset, .unset, .unset] []))
  refine W.g_iconst (pc1 := 1) (v := (3 : Int32)) P0.q d6_0 (by decide) rfl ?_
  refine P0.newP (pc1 := 3) (cap := 3) (wd hw (k := 11) rfl) (by decide) (by decide) (by decide) (by decide) (by decide) d6_1 rfl ?_
  intro T156 h156 x156 k156 g156 P156 E156 V156
  refine W.g_dup (pc1 := 4) P156.q d6_3 rfl rfl ?_
  refine W.g_iconst (pc1 := 5) (v := (0 : Int32)) P156.q d6_4 (by decide) rfl ?_
  refine W.g_iloadN (pc1 := 6) P156.q d6_5 rfl rfl ?_
  refine P156.stC (pc1 := 7) (i := 0) V156 (by decide) (by decide) (Nat.le_of_ble_eq_true rfl) rfl (Or.inr (by rw [g156]; exact P0.sz)) W.safe0 d6_6 rfl ?_
  intro T157 h157 P157 W157 V157
  refine W.g_dup (pc1 := 8) P157.q d6_7 rfl rfl ?_
  refine W.g_iconst (pc1 := 9) (v := (1 : Int32)) P157.q d6_8 (by decide) rfl ?_
  refine W.g_iloadN (pc1 := 10) P157.q d6_9 rfl rfl ?_
  refine P157.stC (pc1 := 11) (i := 1) V157 (by decide) (by decide) (Nat.le_of_ble_eq_true rfl) rfl (Or.inr (by rw [g156]; exact P0.sz)) W.safe0 d6_10 rfl ?_
  intro T158 h158 P158 W158 V158
  refine W.g_dup (pc1 := 12) P158.q d6_11 rfl rfl ?_
  refine W.g_iconst (pc1 := 13) (v := (2 : Int32)) P158.q d6_12 (by decide) rfl ?_
  refine W.g_iloadN (pc1 := 14) P158.q d6_13 rfl rfl ?_
  refine P158.stC (pc1 := 15) (i := 2) V158 (by decide) (by decide) (Nat.le_of_ble_eq_true rfl) rfl (Or.inr (by rw [g156]; exact P0.sz)) W.safe0 d6_14 rfl ?_
  intro T159 h159 P159 W159 V159
  simp only [List.replicate, List.set, own_narc b0, own_narc b1, own_narc b2] at V159
  have Aq : W.Arg Z h159 x156 k156 .char 3 (own_f c0 c1 c2) := W.Arg.of 3 V159 rfl (by decide) (fun i hi => match i, hi with | 0, _ => rfl | 1, _ => rfl | 2, _ => rfl)
  refine W.g_astore (pc1 := 17) (ls2 := #[.val (.int c0), .val (.int c1), .val (.int c2), .val (.int (Int32.ofNat n)), .val (.ref x156), .unset, .unset, .unset, .unset, .unset]) P159.q d6_15 rfl rfl rfl ?_
  refine W.g_aload (pc1 := 19) P159.q d6_17 rfl rfl rfl ?_
  refine W.g_iloadN (pc1 := 20) P159.q d6_19 rfl rfl ?_
  refine W.g_iconst (pc1 := 21) (v := (0 : Int32)) P159.q d6_20 (by decide) rfl ?_
  refine P159.callS (pc1 := 24) (wd hw (k := 33) rfl) (wd hw (k := 34) rfl) (wd hw (k := 3) rfl) (wd hw (k := 35) rfl) (by decide) (W.MetN.pay (W := 0) (c_point l Z a0 hw x156 k156 (own_f c0 c1 c2) n 0 hn (by decide) h159 Aq) P159 (wd hw (k := 35) rfl) (wd hw (k := 3) rfl) (by decide) (by decide)) (argsL := [(.ref x156), (.int (Int32.ofNat n)), (.int (0 : Int32))]) (st0 := []) (lenOf pd_ACII_R_I rfl) rfl rfl (Nat.le_of_eq rfl) (by rw [hml]; rfl) (by decide) (by decide) (W.Pure.ok P159.chv) d6_21 rfl ?_
  intro v160 T160 h160 L160 q160 P160
  obtain ⟨rfl, rfl, rfl⟩ := q160
  show W.Go p.tables e below _ (T160.setTop (mkF m 24 #[.val (.int c0), .val (.int c1), .val (.int c2), .val (.int (Int32.ofNat n)), .val (.ref x156), .unset, .unset, .unset, .unset, .unset] [(.int (own_pt n (own_f c0 c1 c2) 0))]))
  refine W.g_istore (pc1 := 26) (ls2 := #[.val (.int c0), .val (.int c1), .val (.int c2), .val (.int (Int32.ofNat n)), .val (.ref x156), .val (.int (own_pt n (own_f c0 c1 c2) 0)), .unset, .unset, .unset, .unset]) P160.q d6_24 rfl rfl ?_
  refine W.g_iload (pc1 := 28) P160.q d6_26 rfl rfl ?_
  have J40 : ∀ (T40 : State) (L40 : List Loc), W.Pos p l e ({ frames := 1, cells := 2, slots := 8, locals := 20 } : Room) s m #[.int c0, .int c1, .int c2, .int (Int32.ofNat n)] below meth c method_7_code Z [] [] h0 "com/example/broker/broker/Utf8OrderComparePinLaw" s.vm T40 L40 1 3 h159 → W.Go p.tables e below (W.GN s (QPt Z n (own_f c0 c1 c2) h0) ({ frames := 1, cells := 2, slots := 8, locals := 20 } : Room)) (T40.setTop (mkF m 40 #[.val (.int c0), .val (.int c1), .val (.int c2), .val (.int (Int32.ofNat n)), .val (.ref x156), .val (.int (own_pt n (own_f c0 c1 c2) 0)), .unset, .unset, .unset, .unset] [(.int (Int32.ofNat (own_p1 n (own_f c0 c1 c2))))])) := by
    intro T40 L40 P40
    have hi1 : (own_p1 n (own_f c0 c1 c2)) < 6 := own_nx_lt hn (by decide)
    refine W.g_istore (pc1 := 42) (ls2 := #[.val (.int c0), .val (.int c1), .val (.int c2), .val (.int (Int32.ofNat n)), .val (.ref x156), .val (.int (own_pt n (own_f c0 c1 c2) 0)), .val (.int (Int32.ofNat (own_p1 n (own_f c0 c1 c2)))), .unset, .unset, .unset]) P40.q d6_40 rfl rfl ?_
    refine W.g_aload (pc1 := 44) P40.q d6_42 rfl rfl rfl ?_
    refine W.g_iloadN (pc1 := 45) P40.q d6_44 rfl rfl ?_
    refine W.g_iload (pc1 := 47) P40.q d6_45 rfl rfl ?_
    refine P40.callS (pc1 := 50) (wd hw (k := 33) rfl) (wd hw (k := 34) rfl) (wd hw (k := 3) rfl) (wd hw (k := 35) rfl) (by decide) (W.MetN.pay (W := 0) (c_point l Z a0 hw x156 k156 (own_f c0 c1 c2) n (own_p1 n (own_f c0 c1 c2)) hn (by omega) h159 Aq) P40 (wd hw (k := 35) rfl) (wd hw (k := 3) rfl) (by decide) (by decide)) (argsL := [(.ref x156), (.int (Int32.ofNat n)), (.int (Int32.ofNat (own_p1 n (own_f c0 c1 c2))))]) (st0 := []) (lenOf pd_ACII_R_I rfl) rfl rfl (Nat.le_of_eq rfl) (by rw [hml]; rfl) (by decide) (by decide) (W.Pure.ok P40.chv) d6_47 rfl ?_
    intro v161 T161 h161 L161 q161 P161
    obtain ⟨rfl, rfl, rfl⟩ := q161
    show W.Go p.tables e below _ (T161.setTop (mkF m 50 #[.val (.int c0), .val (.int c1), .val (.int c2), .val (.int (Int32.ofNat n)), .val (.ref x156), .val (.int (own_pt n (own_f c0 c1 c2) 0)), .val (.int (Int32.ofNat (own_p1 n (own_f c0 c1 c2)))), .unset, .unset, .unset] [(.int (own_pt n (own_f c0 c1 c2) (own_p1 n (own_f c0 c1 c2))))]))
    refine W.g_istore (pc1 := 52) (ls2 := #[.val (.int c0), .val (.int c1), .val (.int c2), .val (.int (Int32.ofNat n)), .val (.ref x156), .val (.int (own_pt n (own_f c0 c1 c2) 0)), .val (.int (Int32.ofNat (own_p1 n (own_f c0 c1 c2)))), .val (.int (own_pt n (own_f c0 c1 c2) (own_p1 n (own_f c0 c1 c2)))), .unset, .unset]) P161.q d6_50 rfl rfl ?_
    refine W.g_iload (pc1 := 54) P161.q d6_52 rfl rfl ?_
    have J69 : ∀ (T69 : State) (L69 : List Loc), W.Pos p l e ({ frames := 1, cells := 2, slots := 8, locals := 20 } : Room) s m #[.int c0, .int c1, .int c2, .int (Int32.ofNat n)] below meth c method_7_code Z [] [] h0 "com/example/broker/broker/Utf8OrderComparePinLaw" s.vm T69 L69 1 3 h159 → W.Go p.tables e below (W.GN s (QPt Z n (own_f c0 c1 c2) h0) ({ frames := 1, cells := 2, slots := 8, locals := 20 } : Room)) (T69.setTop (mkF m 69 #[.val (.int c0), .val (.int c1), .val (.int c2), .val (.int (Int32.ofNat n)), .val (.ref x156), .val (.int (own_pt n (own_f c0 c1 c2) 0)), .val (.int (Int32.ofNat (own_p1 n (own_f c0 c1 c2)))), .val (.int (own_pt n (own_f c0 c1 c2) (own_p1 n (own_f c0 c1 c2)))), .unset, .unset] [(.int (Int32.ofNat (own_p2 n (own_f c0 c1 c2))))])) := by
      intro T69 L69 P69
      have hi2 : (own_p2 n (own_f c0 c1 c2)) < 12 := Nat.lt_of_lt_of_le (own_nx_lt hn (by omega)) (by omega)
      refine W.g_istore (pc1 := 71) (ls2 := #[.val (.int c0), .val (.int c1), .val (.int c2), .val (.int (Int32.ofNat n)), .val (.ref x156), .val (.int (own_pt n (own_f c0 c1 c2) 0)), .val (.int (Int32.ofNat (own_p1 n (own_f c0 c1 c2)))), .val (.int (own_pt n (own_f c0 c1 c2) (own_p1 n (own_f c0 c1 c2)))), .val (.int (Int32.ofNat (own_p2 n (own_f c0 c1 c2)))), .unset]) P69.q d6_69 rfl rfl ?_
      refine W.g_aload (pc1 := 73) P69.q d6_71 rfl rfl rfl ?_
      refine W.g_iloadN (pc1 := 74) P69.q d6_73 rfl rfl ?_
      refine W.g_iload (pc1 := 76) P69.q d6_74 rfl rfl ?_
      refine P69.callS (pc1 := 79) (wd hw (k := 33) rfl) (wd hw (k := 34) rfl) (wd hw (k := 3) rfl) (wd hw (k := 35) rfl) (by decide) (W.MetN.pay (W := 0) (c_point l Z a0 hw x156 k156 (own_f c0 c1 c2) n (own_p2 n (own_f c0 c1 c2)) hn (by omega) h159 Aq) P69 (wd hw (k := 35) rfl) (wd hw (k := 3) rfl) (by decide) (by decide)) (argsL := [(.ref x156), (.int (Int32.ofNat n)), (.int (Int32.ofNat (own_p2 n (own_f c0 c1 c2))))]) (st0 := []) (lenOf pd_ACII_R_I rfl) rfl rfl (Nat.le_of_eq rfl) (by rw [hml]; rfl) (by decide) (by decide) (W.Pure.ok P69.chv) d6_76 rfl ?_
      intro v162 T162 h162 L162 q162 P162
      obtain ⟨rfl, rfl, rfl⟩ := q162
      show W.Go p.tables e below _ (T162.setTop (mkF m 79 #[.val (.int c0), .val (.int c1), .val (.int c2), .val (.int (Int32.ofNat n)), .val (.ref x156), .val (.int (own_pt n (own_f c0 c1 c2) 0)), .val (.int (Int32.ofNat (own_p1 n (own_f c0 c1 c2)))), .val (.int (own_pt n (own_f c0 c1 c2) (own_p1 n (own_f c0 c1 c2)))), .val (.int (Int32.ofNat (own_p2 n (own_f c0 c1 c2)))), .unset] [(.int (own_pt n (own_f c0 c1 c2) (own_p2 n (own_f c0 c1 c2))))]))
      refine W.g_istore (pc1 := 81) (ls2 := #[.val (.int c0), .val (.int c1), .val (.int c2), .val (.int (Int32.ofNat n)), .val (.ref x156), .val (.int (own_pt n (own_f c0 c1 c2) 0)), .val (.int (Int32.ofNat (own_p1 n (own_f c0 c1 c2)))), .val (.int (own_pt n (own_f c0 c1 c2) (own_p1 n (own_f c0 c1 c2)))), .val (.int (Int32.ofNat (own_p2 n (own_f c0 c1 c2)))), .val (.int (own_pt n (own_f c0 c1 c2) (own_p2 n (own_f c0 c1 c2))))]) P162.q d6_79 rfl rfl ?_
      refine W.g_iconst (pc1 := 82) (v := (3 : Int32)) P162.q d6_81 (by decide) rfl ?_
      refine P162.newP (pc1 := 84) (cap := 3) (wd hw (k := 36) rfl) (by decide) (by decide) (by decide) (by decide) (by decide) d6_82 rfl ?_
      intro T163 h163 x163 k163 g163 P163 E163 V163
      refine W.g_dup (pc1 := 85) P163.q d6_84 rfl rfl ?_
      refine W.g_iconst (pc1 := 86) (v := (0 : Int32)) P163.q d6_85 (by decide) rfl ?_
      refine W.g_iload (pc1 := 88) P163.q d6_86 rfl rfl ?_
      refine P163.stI (pc1 := 89) (i := 0) V163 (by decide) (by decide) (Nat.le_of_ble_eq_true rfl) rfl (Or.inr (by rw [g163]; exact P162.sz)) W.safe0 d6_88 rfl ?_
      intro T164 h164 P164 W164 V164
      refine W.g_dup (pc1 := 90) P164.q d6_89 rfl rfl ?_
      refine W.g_iconst (pc1 := 91) (v := (1 : Int32)) P164.q d6_90 (by decide) rfl ?_
      refine W.g_iload (pc1 := 93) P164.q d6_91 rfl rfl ?_
      refine P164.stI (pc1 := 94) (i := 1) V164 (by decide) (by decide) (Nat.le_of_ble_eq_true rfl) rfl (Or.inr (by rw [g163]; exact P162.sz)) W.safe0 d6_93 rfl ?_
      intro T165 h165 P165 W165 V165
      refine W.g_dup (pc1 := 95) P165.q d6_94 rfl rfl ?_
      refine W.g_iconst (pc1 := 96) (v := (2 : Int32)) P165.q d6_95 (by decide) rfl ?_
      refine W.g_iload (pc1 := 98) P165.q d6_96 rfl rfl ?_
      refine P165.stI (pc1 := 99) (i := 2) V165 (by decide) (by decide) (Nat.le_of_ble_eq_true rfl) rfl (Or.inr (by rw [g163]; exact P162.sz)) W.safe0 d6_98 rfl ?_
      intro T166 h166 P166 W166 V166
      exact P166.retAN hlk hret rfl rfl rfl d6_99 (by decide) (by decide) ⟨_, _, rfl, P166.fr, P166.ext0, V166⟩
    refine W.g_if (pc1 := 61) (pc2 := 57) P161.q d6_54 (by decide) rfl rfl (fun (h2 : ¬ (own_pt n (own_f c0 c1 c2) (own_p1 n (own_f c0 c1 c2))) < 0) => ?_) (fun (h2 : ¬ (¬ (own_pt n (own_f c0 c1 c2) (own_p1 n (own_f c0 c1 c2))) < 0)) => ?_)
    · refine W.g_iload (pc1 := 63) P161.q d6_61 rfl rfl ?_
      refine W.g_iload (pc1 := 65) P161.q d6_63 rfl rfl ?_
      refine P161.callS (pc1 := 68) (wd hw (k := 74) rfl) (wd hw (k := 75) rfl) (wd hw (k := 3) rfl) (wd hw (k := 76) rfl) (by decide) (W.MetN.pay (W := 1) (c_width l Z a0 hw (own_pt n (own_f c0 c1 c2) (own_p1 n (own_f c0 c1 c2))) h159) P161 (wd hw (k := 76) rfl) (wd hw (k := 3) rfl) (by decide) (by decide)) (argsL := [(.int (own_pt n (own_f c0 c1 c2) (own_p1 n (own_f c0 c1 c2))))]) (st0 := [(.int (Int32.ofNat (own_p1 n (own_f c0 c1 c2))))]) (lenOf pd_I_R_I rfl) rfl rfl (Nat.le_of_eq rfl) (by rw [hml]; rfl) (by decide) (by decide) (W.Pure.ok P161.chv) d6_65 rfl ?_
      intro v167 T167 h167 L167 q167 P167
      obtain ⟨rfl, rfl, rfl⟩ := q167
      show W.Go p.tables e below _ (T167.setTop (mkF m 68 #[.val (.int c0), .val (.int c1), .val (.int c2), .val (.int (Int32.ofNat n)), .val (.ref x156), .val (.int (own_pt n (own_f c0 c1 c2) 0)), .val (.int (Int32.ofNat (own_p1 n (own_f c0 c1 c2)))), .val (.int (own_pt n (own_f c0 c1 c2) (own_p1 n (own_f c0 c1 c2)))), .unset, .unset] [(.int (Int32.ofNat (own_w (own_pt n (own_f c0 c1 c2) (own_p1 n (own_f c0 c1 c2)))))), (.int (Int32.ofNat (own_p1 n (own_f c0 c1 c2))))]))
      refine W.g_iadd (pc1 := 69) P167.q d6_68 rfl ?_
      rw [add32, show (own_p1 n (own_f c0 c1 c2)) + own_w (own_pt n (own_f c0 c1 c2) (own_p1 n (own_f c0 c1 c2))) = (own_p2 n (own_f c0 c1 c2)) from (if_neg h2).symm]
      exact J69 _ _ P167
    · refine W.g_iloadN (pc1 := 58) P161.q d6_57 rfl rfl ?_
      refine W.g_goto (pc1 := 69) P161.q d6_58 (by decide) rfl ?_
      have e2 : (own_p2 n (own_f c0 c1 c2)) = n := if_pos (Decidable.byContradiction h2)
      rw [e2] at J69
      exact J69 _ _ P161
  refine W.g_if (pc1 := 35) (pc2 := 31) P160.q d6_28 (by decide) rfl rfl (fun (h1 : ¬ (own_pt n (own_f c0 c1 c2) 0) < 0) => ?_) (fun (h1 : ¬ (¬ (own_pt n (own_f c0 c1 c2) 0) < 0)) => ?_)
  · refine W.g_iload (pc1 := 37) P160.q d6_35 rfl rfl ?_
    refine P160.callS (pc1 := 40) (wd hw (k := 74) rfl) (wd hw (k := 75) rfl) (wd hw (k := 3) rfl) (wd hw (k := 76) rfl) (by decide) (W.MetN.pay (W := 0) (c_width l Z a0 hw (own_pt n (own_f c0 c1 c2) 0) h159) P160 (wd hw (k := 76) rfl) (wd hw (k := 3) rfl) (by decide) (by decide)) (argsL := [(.int (own_pt n (own_f c0 c1 c2) 0))]) (st0 := []) (lenOf pd_I_R_I rfl) rfl rfl (Nat.le_of_eq rfl) (by rw [hml]; rfl) (by decide) (by decide) (W.Pure.ok P160.chv) d6_37 rfl ?_
    intro v168 T168 h168 L168 q168 P168
    obtain ⟨rfl, rfl, rfl⟩ := q168
    show W.Go p.tables e below _ (T168.setTop (mkF m 40 #[.val (.int c0), .val (.int c1), .val (.int c2), .val (.int (Int32.ofNat n)), .val (.ref x156), .val (.int (own_pt n (own_f c0 c1 c2) 0)), .unset, .unset, .unset, .unset] [(.int (Int32.ofNat (own_w (own_pt n (own_f c0 c1 c2) 0))))]))
    have e1 : (own_p1 n (own_f c0 c1 c2)) = own_w (own_pt n (own_f c0 c1 c2) 0) := (if_neg h1).trans (Nat.zero_add _)
    rw [e1] at J40
    exact J40 _ _ P168
  · refine W.g_iloadN (pc1 := 32) P160.q d6_31 rfl rfl ?_
    refine W.g_goto (pc1 := 40) P160.q d6_32 (by decide) rfl ?_
    have e1 : (own_p1 n (own_f c0 c1 c2)) = n := if_pos (Decidable.byContradiction h1)
    rw [e1] at J40
    exact J40 _ _ P160
set_option maxRecDepth 65536 in
set_option maxHeartbeats 40000000 in
theorem c_hs (l : Launch) (Z : State) (a0 : Array Value) (hw : ∀ d ∈ tables_1, d.before a0 Z = true) (u : Int32) (h0 : Heap) : W.MetN l Z (⟨"java/lang/Character", "isHighSurrogate", "(C)Z"⟩ : MethodName) jdk_89_method_14_code 1 ((Option.some Jvm.ClassFile.FieldType.boolean)) [] ({ frames := 0, cells := 0, slots := 0, locals := 0 } : Room) #[.int u]  h0 (QPo (own_hiP u) h0) := by
  refine W.MetN.mk (ls0 := #[.val (.int u)]) [] (plainFor_of_name pn_java_lang_Character) (fun m => by first | (simp [entryFrame, mkF, argsToLocals, Value.category]; done) | rfl) ?_
  intro p e s m below meth c s₁ hml hret hnm hlk P0
  show W.Go p.tables e below _ (s₁.setTop (mkF m 0 #[.val (.int u)] []))
  have hlim : u < 56320 ↔ ¬ (56319 : Int32) < u := by
    rw [Int32.lt_iff_toInt_lt, Int32.lt_iff_toInt_lt]
    have e0 : (56320 : Int32).toInt = 56320 := rfl
    have e1 : (56319 : Int32).toInt = 56319 := rfl
    omega
  refine W.g_iloadN (pc1 := 1) P0.q d29_0 rfl rfl ?_
  refine P0.ldcI (pc1 := 3) (wd hw (k := 127) rfl) d29_1 rfl ?_
  refine W.g_cmp (pc1 := 16) (pc2 := 6) P0.q d29_3 (by decide) rfl rfl (fun (h1 : u < (55296 : Int32)) => ?_) (fun (h1 : ¬ (u < (55296 : Int32))) => ?_)
  · refine W.g_iconst (pc1 := 17) (v := (0 : Int32)) P0.q d29_16 (by decide) rfl ?_
    exact P0.retVN hlk hret (Or.inl rfl) d29_17 (by decide) (by decide) ⟨rfl, rfl, Or.inr ⟨rfl, fun q => q.1 h1⟩⟩
  · refine W.g_iloadN (pc1 := 7) P0.q d29_6 rfl rfl ?_
    refine P0.ldcI (pc1 := 9) (wd hw (k := 128) rfl) d29_7 rfl ?_
    refine W.g_cmp (pc1 := 16) (pc2 := 12) P0.q d29_9 (by decide) rfl rfl (fun (h2 : ¬ u < (56320 : Int32)) => ?_) (fun (h2 : ¬ (¬ u < (56320 : Int32))) => ?_)
    · refine W.g_iconst (pc1 := 17) (v := (0 : Int32)) P0.q d29_16 (by decide) rfl ?_
      exact P0.retVN hlk hret (Or.inl rfl) d29_17 (by decide) (by decide) ⟨rfl, rfl, Or.inr ⟨rfl, fun q => h2 (hlim.mpr q.2)⟩⟩
    · refine W.g_iconst (pc1 := 13) (v := (1 : Int32)) P0.q d29_12 (by decide) rfl ?_
      refine W.g_goto (pc1 := 17) P0.q d29_13 (by decide) rfl ?_
      exact P0.retVN hlk hret (Or.inl rfl) d29_17 (by decide) (by decide) ⟨rfl, rfl, Or.inl ⟨rfl, h1, hlim.mp (Decidable.byContradiction h2)⟩⟩
set_option maxRecDepth 65536 in
set_option maxHeartbeats 40000000 in
theorem c_ls (l : Launch) (Z : State) (a0 : Array Value) (hw : ∀ d ∈ tables_1, d.before a0 Z = true) (u : Int32) (h0 : Heap) : W.MetN l Z (⟨"java/lang/Character", "isLowSurrogate", "(C)Z"⟩ : MethodName) jdk_89_method_15_code 1 ((Option.some Jvm.ClassFile.FieldType.boolean)) [] ({ frames := 0, cells := 0, slots := 0, locals := 0 } : Room) #[.int u]  h0 (QPo (own_loP u) h0) := by
  refine W.MetN.mk (ls0 := #[.val (.int u)]) [] (plainFor_of_name pn_java_lang_Character) (fun m => by first | (simp [entryFrame, mkF, argsToLocals, Value.category]; done) | rfl) ?_
  intro p e s m below meth c s₁ hml hret hnm hlk P0
  show W.Go p.tables e below _ (s₁.setTop (mkF m 0 #[.val (.int u)] []))
  have hlim : u < 57344 ↔ ¬ (57343 : Int32) < u := by
    rw [Int32.lt_iff_toInt_lt, Int32.lt_iff_toInt_lt]
    have e0 : (57344 : Int32).toInt = 57344 := rfl
    have e1 : (57343 : Int32).toInt = 57343 := rfl
    omega
  refine W.g_iloadN (pc1 := 1) P0.q d31_0 rfl rfl ?_
  refine P0.ldcI (pc1 := 3) (wd hw (k := 128) rfl) d31_1 rfl ?_
  refine W.g_cmp (pc1 := 16) (pc2 := 6) P0.q d31_3 (by decide) rfl rfl (fun (h1 : u < (56320 : Int32)) => ?_) (fun (h1 : ¬ (u < (56320 : Int32))) => ?_)
  · refine W.g_iconst (pc1 := 17) (v := (0 : Int32)) P0.q d31_16 (by decide) rfl ?_
    exact P0.retVN hlk hret (Or.inl rfl) d31_17 (by decide) (by decide) ⟨rfl, rfl, Or.inr ⟨rfl, fun q => q.1 h1⟩⟩
  · refine W.g_iloadN (pc1 := 7) P0.q d31_6 rfl rfl ?_
    refine P0.ldcI (pc1 := 9) (wd hw (k := 137) rfl) d31_7 rfl ?_
    refine W.g_cmp (pc1 := 16) (pc2 := 12) P0.q d31_9 (by decide) rfl rfl (fun (h2 : ¬ u < (57344 : Int32)) => ?_) (fun (h2 : ¬ (¬ u < (57344 : Int32))) => ?_)
    · refine W.g_iconst (pc1 := 17) (v := (0 : Int32)) P0.q d31_16 (by decide) rfl ?_
      exact P0.retVN hlk hret (Or.inl rfl) d31_17 (by decide) (by decide) ⟨rfl, rfl, Or.inr ⟨rfl, fun q => h2 (hlim.mpr q.2)⟩⟩
    · refine W.g_iconst (pc1 := 13) (v := (1 : Int32)) P0.q d31_12 (by decide) rfl ?_
      refine W.g_goto (pc1 := 17) P0.q d31_13 (by decide) rfl ?_
      exact P0.retVN hlk hret (Or.inl rfl) d31_17 (by decide) (by decide) ⟨rfl, rfl, Or.inl ⟨rfl, h1, hlim.mp (Decidable.byContradiction h2)⟩⟩
set_option maxRecDepth 65536 in
set_option maxHeartbeats 40000000 in
theorem c_tcp (l : Launch) (Z : State) (a0 : Array Value) (hw : ∀ d ∈ tables_1, d.before a0 Z = true) (u v : Int32) (hu : own_hiP u) (hv : own_loP v) (h0 : Heap) : W.MetN l Z (⟨"java/lang/Character", "toCodePoint", "(CC)I"⟩ : MethodName) jdk_89_method_19_code 2 ((Option.some Jvm.ClassFile.FieldType.int)) [] ({ frames := 0, cells := 0, slots := 0, locals := 0 } : Room) #[.int u, .int v]  h0 (W.Pure (some (.int (own_cp u v))) h0) := by
  refine W.MetN.mk (ls0 := #[.val (.int u), .val (.int v)]) [] (plainFor_of_name pn_java_lang_Character) (fun m => by first | (simp [entryFrame, mkF, argsToLocals, Value.category]; done) | rfl) ?_
  intro p e s m below meth c s₁ hml hret hnm hlk P0
  show W.Go p.tables e below _ (s₁.setTop (mkF m 0 #[.val (.int u), .val (.int v)] []))
  refine W.g_iloadN (pc1 := 1) P0.q d32_0 rfl rfl ?_
  refine W.g_bipush (pc1 := 3) (v := (10 : Int32)) P0.q d32_1 (by decide) rfl ?_
  refine W.g_ishl (pc1 := 4) P0.q d32_3 rfl ?_
  refine W.g_iloadN (pc1 := 5) P0.q d32_4 rfl rfl ?_
  refine W.g_iadd (pc1 := 6) P0.q d32_5 rfl ?_
  refine P0.ldcI (pc1 := 8) (wd hw (k := 141) rfl) d32_6 rfl ?_
  refine W.g_iadd (pc1 := 9) P0.q d32_8 rfl ?_
  exact P0.retIN hlk hret d32_9 (by decide) (by decide) ⟨by rw [← own_cpj hu hv], rfl, rfl⟩
set_option maxRecDepth 65536 in
set_option maxHeartbeats 40000000 in
theorem c_cp4 (l : Launch) (Z : State) (a0 : Array Value) (hw : ∀ d ∈ tables_1, d.before a0 Z = true) (t : Addr) (kb : ClassId) (i n : Nat) (hi : i < n) (f g : Nat → Int32) (hn : 2 * n < 2147483648) (hg : ∀ i, i < n → g (2 * i) = StrChars.lo8 (f i) ∧ g (2 * i + 1) = StrChars.hi8 (f i)) (hb : ∀ i, i < n → ¬ f i < 0 ∧ ¬ (65535 : Int32) < f i) (h0 : Heap) (V : W.Arg Z h0 t kb .byte (2 * n) g) (EZ : Ext Z.heap h0) (zc : Int32) (fm : Value) (US : UST Z zc fm) : W.MetN l Z (⟨"java/lang/StringUTF16", "codePointAt", "([BIIZ)I"⟩ : MethodName) jdk_52_method_7_code 6 ((Option.some Jvm.ClassFile.FieldType.int)) [] ({ frames := 1, cells := 0, slots := 0, locals := 16 } : Room) #[.ref t, .int (Int32.ofNat i), .int (Int32.ofNat n), .int 0]  h0 (W.Pure (some (.int (own_pt n f i))) h0) := by
  refine W.MetN.mk (ls0 := #[.val (.ref t), .val (.int (Int32.ofNat i)), .val (.int (Int32.ofNat n)), .val (.int (0 : Int32)), .unset, .unset]) [] (plainFor_of_name pn_java_lang_StringUTF16) (fun m => by first | (simp [entryFrame, mkF, argsToLocals, Value.category]; done) | rfl) ?_
  intro p e s m below meth c s₁ hml hret hnm hlk P0
  show W.Go p.tables e below _ (s₁.setTop (mkF m 0 #[.val (.ref t), .val (.int (Int32.ofNat i)), .val (.int (Int32.ofNat n)), .val (.int (0 : Int32)), .unset, .unset] []))
  refine P0.getS (pc1 := 3) (wd hw (k := 110) rfl) Via.refl (US.2.2.1.ext (P0.extZ EZ all0)) d28_0 rfl ?_
  intro T169 P169
  refine W.g_ifY (pc1 := 19) P169.q d28_3 (by decide) rfl (by decide) ?_
  refine W.g_iloadN (pc1 := 20) P169.q d28_19 rfl rfl ?_
  refine W.g_ifY (pc1 := 28) P169.q d28_20 (by decide) rfl (by decide) ?_
  refine W.g_aloadN (pc1 := 29) P169.q d28_28 rfl rfl rfl ?_
  refine W.g_iloadN (pc1 := 30) P169.q d28_29 rfl rfl ?_
  refine P169.callS (pc1 := 33) (wd hw (k := 113) rfl) (wd hw (k := 114) rfl) (wd hw (k := 65) rfl) (wd hw (k := 115) rfl) (by decide) (W.MetN.pay (W := 0) (c_getc l Z a0 hw t kb (2 * n) i _ (f i) (by omega) (hg i hi).1 (hg i hi).2 (hb i hi) h0 V (P169.extZ EZ all0) zc fm US) P169 (wd hw (k := 115) rfl) (wd hw (k := 65) rfl) (by decide) (by decide)) (argsL := [(.ref t), (.int (Int32.ofNat i))]) (st0 := []) (lenOf pd_ABI_R_C rfl) rfl rfl (Nat.le_of_eq rfl) (by rw [hml]; rfl) (by decide) (by decide) (W.Pure.ok P169.chv) d28_30 rfl ?_
  intro v170 T170 h170 L170 q170 P170
  obtain ⟨rfl, rfl, rfl⟩ := q170
  show W.Go p.tables e below _ (T170.setTop (mkF m 33 #[.val (.ref t), .val (.int (Int32.ofNat i)), .val (.int (Int32.ofNat n)), .val (.int (0 : Int32)), .unset, .unset] [(.int (f i))]))
  refine W.g_istore (pc1 := 35) (ls2 := #[.val (.ref t), .val (.int (Int32.ofNat i)), .val (.int (Int32.ofNat n)), .val (.int (0 : Int32)), .val (.int (f i)), .unset]) P170.q d28_33 rfl rfl ?_
  refine W.g_iload (pc1 := 37) P170.q d28_35 rfl rfl ?_
  refine P170.callS (pc1 := 40) (wd hw (k := 123) rfl) (wd hw (k := 124) rfl) (wd hw (k := 125) rfl) (wd hw (k := 126) rfl) (by decide) (W.MetN.pay (W := 0) (c_hs l Z a0 hw (f i) h0) P170 (wd hw (k := 126) rfl) (wd hw (k := 125) rfl) (by decide) (by decide)) (argsL := [(.int (f i))]) (st0 := []) (lenOf pd_C_R_Z rfl) rfl rfl (Nat.le_of_eq rfl) (by rw [hml]; rfl) (by decide) (by decide) (QPo.ok P170.chv) d28_37 rfl ?_
  intro v171 T171 h171 L171 q171 P171
  obtain ⟨rfl, rfl, hv171⟩ := q171
  rcases hv171 with ⟨rfl, hv171⟩ | ⟨rfl, hv171⟩
  · show W.Go p.tables e below _ (T171.setTop (mkF m 40 #[.val (.ref t), .val (.int (Int32.ofNat i)), .val (.int (Int32.ofNat n)), .val (.int (0 : Int32)), .val (.int (f i)), .unset] [(.int (1 : Int32))]))
    refine W.g_ifN (pc2 := 43) P171.q d28_40 rfl (by decide) ?_
    refine W.g_iinc (pc1 := 46) (ls2 := #[.val (.ref t), .val (.int ((Int32.ofNat i) + Int32.ofInt 1)), .val (.int (Int32.ofNat n)), .val (.int (0 : Int32)), .val (.int (f i)), .unset]) P171.q d28_43 rfl rfl rfl ?_
    rw [W.succ32]
    refine W.g_iloadN (pc1 := 47) P171.q d28_46 rfl rfl ?_
    refine W.g_iloadN (pc1 := 48) P171.q d28_47 rfl rfl ?_
    refine W.g_cmp (pc1 := 83) (pc2 := 51) P171.q d28_48 (by decide) rfl rfl (fun (h2 : ¬ (Int32.ofNat (i + 1)) < (Int32.ofNat n)) => ?_) (fun (h2 : ¬ (¬ (Int32.ofNat (i + 1)) < (Int32.ofNat n))) => ?_)
    · refine W.g_iload (pc1 := 85) P171.q d28_83 rfl rfl ?_
      exact P171.retIN hlk hret d28_85 (by decide) (by decide) ⟨by rw [own_pt, if_pos hi, if_neg (fun q => h2 ((W.lt32 (by omega) (by omega)).mpr q.2.1))], rfl, rfl⟩
    · have hi2 : i + 1 < n := (W.lt32 (by omega) (by omega)).mp (Decidable.byContradiction h2)
      refine W.g_iloadN (pc1 := 52) P171.q d28_51 rfl rfl ?_
      refine W.g_ifY (pc1 := 60) P171.q d28_52 (by decide) rfl (by decide) ?_
      refine W.g_aloadN (pc1 := 61) P171.q d28_60 rfl rfl rfl ?_
      refine W.g_iloadN (pc1 := 62) P171.q d28_61 rfl rfl ?_
      refine P171.callS (pc1 := 65) (wd hw (k := 113) rfl) (wd hw (k := 114) rfl) (wd hw (k := 65) rfl) (wd hw (k := 115) rfl) (by decide) (W.MetN.pay (W := 0) (c_getc l Z a0 hw t kb (2 * n) (i + 1) _ (f (i + 1)) (by omega) (hg (i + 1) hi2).1 (hg (i + 1) hi2).2 (hb (i + 1) hi2) h0 V (P171.extZ EZ all0) zc fm US) P171 (wd hw (k := 115) rfl) (wd hw (k := 65) rfl) (by decide) (by decide)) (argsL := [(.ref t), (.int (Int32.ofNat (i + 1)))]) (st0 := []) (lenOf pd_ABI_R_C rfl) rfl rfl (Nat.le_of_eq rfl) (by rw [hml]; rfl) (by decide) (by decide) (W.Pure.ok P171.chv) d28_62 rfl ?_
      intro v172 T172 h172 L172 q172 P172
      obtain ⟨rfl, rfl, rfl⟩ := q172
      show W.Go p.tables e below _ (T172.setTop (mkF m 65 #[.val (.ref t), .val (.int (Int32.ofNat (i + 1))), .val (.int (Int32.ofNat n)), .val (.int (0 : Int32)), .val (.int (f i)), .unset] [(.int (f (i + 1)))]))
      refine W.g_istore (pc1 := 67) (ls2 := #[.val (.ref t), .val (.int (Int32.ofNat (i + 1))), .val (.int (Int32.ofNat n)), .val (.int (0 : Int32)), .val (.int (f i)), .val (.int (f (i + 1)))]) P172.q d28_65 rfl rfl ?_
      refine W.g_iload (pc1 := 69) P172.q d28_67 rfl rfl ?_
      refine P172.callS (pc1 := 72) (wd hw (k := 134) rfl) (wd hw (k := 135) rfl) (wd hw (k := 125) rfl) (wd hw (k := 136) rfl) (by decide) (W.MetN.pay (W := 0) (c_ls l Z a0 hw (f (i + 1)) h0) P172 (wd hw (k := 136) rfl) (wd hw (k := 125) rfl) (by decide) (by decide)) (argsL := [(.int (f (i + 1)))]) (st0 := []) (lenOf pd_C_R_Z rfl) rfl rfl (Nat.le_of_eq rfl) (by rw [hml]; rfl) (by decide) (by decide) (QPo.ok P172.chv) d28_69 rfl ?_
      intro v173 T173 h173 L173 q173 P173
      obtain ⟨rfl, rfl, hv173⟩ := q173
      rcases hv173 with ⟨rfl, hv173⟩ | ⟨rfl, hv173⟩
      · show W.Go p.tables e below _ (T173.setTop (mkF m 72 #[.val (.ref t), .val (.int (Int32.ofNat (i + 1))), .val (.int (Int32.ofNat n)), .val (.int (0 : Int32)), .val (.int (f i)), .val (.int (f (i + 1)))] [(.int (1 : Int32))]))
        refine W.g_ifN (pc2 := 75) P173.q d28_72 rfl (by decide) ?_
        refine W.g_iload (pc1 := 77) P173.q d28_75 rfl rfl ?_
        refine W.g_iload (pc1 := 79) P173.q d28_77 rfl rfl ?_
        refine P173.callS (pc1 := 82) (wd hw (k := 138) rfl) (wd hw (k := 139) rfl) (wd hw (k := 125) rfl) (wd hw (k := 140) rfl) (by decide) (W.MetN.pay (W := 0) (c_tcp l Z a0 hw _ _ hv171 hv173 h0) P173 (wd hw (k := 140) rfl) (wd hw (k := 125) rfl) (by decide) (by decide)) (argsL := [(.int (f i)), (.int (f (i + 1)))]) (st0 := []) (lenOf pd_CC_R_I rfl) rfl rfl (Nat.le_of_eq rfl) (by rw [hml]; rfl) (by decide) (by decide) (W.Pure.ok P173.chv) d28_79 rfl ?_
        intro v174 T174 h174 L174 q174 P174
        obtain ⟨rfl, rfl, rfl⟩ := q174
        show W.Go p.tables e below _ (T174.setTop (mkF m 82 #[.val (.ref t), .val (.int (Int32.ofNat (i + 1))), .val (.int (Int32.ofNat n)), .val (.int (0 : Int32)), .val (.int (f i)), .val (.int (f (i + 1)))] [(.int (own_cp (f i) (f (i + 1))))]))
        exact P174.retIN hlk hret d28_82 (by decide) (by decide) ⟨by rw [own_pt, if_pos hi, if_pos ⟨hv171, hi2, hv173⟩], rfl, rfl⟩
      · show W.Go p.tables e below _ (T173.setTop (mkF m 72 #[.val (.ref t), .val (.int (Int32.ofNat (i + 1))), .val (.int (Int32.ofNat n)), .val (.int (0 : Int32)), .val (.int (f i)), .val (.int (f (i + 1)))] [(.int (0 : Int32))]))
        refine W.g_ifY (pc1 := 83) P173.q d28_72 (by decide) rfl (by decide) ?_
        refine W.g_iload (pc1 := 85) P173.q d28_83 rfl rfl ?_
        exact P173.retIN hlk hret d28_85 (by decide) (by decide) ⟨by rw [own_pt, if_pos hi, if_neg (fun q => hv173 q.2.2)], rfl, rfl⟩
  · show W.Go p.tables e below _ (T171.setTop (mkF m 40 #[.val (.ref t), .val (.int (Int32.ofNat i)), .val (.int (Int32.ofNat n)), .val (.int (0 : Int32)), .val (.int (f i)), .unset] [(.int (0 : Int32))]))
    refine W.g_ifY (pc1 := 83) P171.q d28_40 (by decide) rfl (by decide) ?_
    refine W.g_iload (pc1 := 85) P171.q d28_83 rfl rfl ?_
    exact P171.retIN hlk hret d28_85 (by decide) (by decide) ⟨by rw [own_pt, if_pos hi, if_neg (fun q => hv171 q.1)], rfl, rfl⟩
set_option maxRecDepth 65536 in
set_option maxHeartbeats 40000000 in
theorem c_cp3 (l : Launch) (Z : State) (a0 : Array Value) (hw : ∀ d ∈ tables_1, d.before a0 Z = true) (t : Addr) (kb : ClassId) (i n : Nat) (hi : i < n) (f g : Nat → Int32) (hn : 2 * n < 2147483648) (hg : ∀ i, i < n → g (2 * i) = StrChars.lo8 (f i) ∧ g (2 * i + 1) = StrChars.hi8 (f i)) (hb : ∀ i, i < n → ¬ f i < 0 ∧ ¬ (65535 : Int32) < f i) (h0 : Heap) (V : W.Arg Z h0 t kb .byte (2 * n) g) (EZ : Ext Z.heap h0) (zc : Int32) (fm : Value) (US : UST Z zc fm) : W.MetN l Z (⟨"java/lang/StringUTF16", "codePointAt", "([BII)I"⟩ : MethodName) jdk_52_method_8_code 3 ((Option.some Jvm.ClassFile.FieldType.int)) [] ({ frames := 2, cells := 0, slots := 0, locals := 34 } : Room) #[.ref t, .int (Int32.ofNat i), .int (Int32.ofNat n)]  h0 (W.Pure (some (.int (own_pt n f i))) h0) := by
  refine W.MetN.mk (ls0 := #[.val (.ref t), .val (.int (Int32.ofNat i)), .val (.int (Int32.ofNat n))]) [] (plainFor_of_name pn_java_lang_StringUTF16) (fun m => by first | (simp [entryFrame, mkF, argsToLocals, Value.category]; done) | rfl) ?_
  intro p e s m below meth c s₁ hml hret hnm hlk P0
  show W.Go p.tables e below _ (s₁.setTop (mkF m 0 #[.val (.ref t), .val (.int (Int32.ofNat i)), .val (.int (Int32.ofNat n))] []))
  refine W.g_aloadN (pc1 := 1) P0.q d27_0 rfl rfl rfl ?_
  refine W.g_iloadN (pc1 := 2) P0.q d27_1 rfl rfl ?_
  refine W.g_iloadN (pc1 := 3) P0.q d27_2 rfl rfl ?_
  refine W.g_iconst (pc1 := 4) (v := (0 : Int32)) P0.q d27_3 (by decide) rfl ?_
  refine P0.callS (pc1 := 7) (wd hw (k := 120) rfl) (wd hw (k := 121) rfl) (wd hw (k := 65) rfl) (wd hw (k := 122) rfl) (by decide) (W.MetN.pay (W := 0) (c_cp4 l Z a0 hw t kb i n hi f g hn hg hb h0 V (P0.extZ EZ all0) zc fm US) P0 (wd hw (k := 122) rfl) (wd hw (k := 65) rfl) (by decide) (by decide)) (argsL := [(.ref t), (.int (Int32.ofNat i)), (.int (Int32.ofNat n)), (.int (0 : Int32))]) (st0 := []) (lenOf pd_ABIIZ_R_I rfl) rfl rfl (Nat.le_of_eq rfl) (by rw [hml]; rfl) (by decide) (by decide) (W.Pure.ok P0.chv) d27_4 rfl ?_
  intro v175 T175 h175 L175 q175 P175
  obtain ⟨rfl, rfl, rfl⟩ := q175
  show W.Go p.tables e below _ (T175.setTop (mkF m 7 #[.val (.ref t), .val (.int (Int32.ofNat i)), .val (.int (Int32.ofNat n))] [(.int (own_pt n f i))]))
  exact P175.retIN hlk hret d27_7 (by decide) (by decide) ⟨by rfl, rfl, rfl⟩
theorem own_lat {c : Int32} (h : ¬ (255 : Int32) < c) : ¬ own_hiP c := fun q => by
  have := own_hi q
  rw [Int32.lt_iff_toInt_lt] at h
  have e : (255 : Int32).toInt = 255 := rfl
  omega
set_option maxRecDepth 65536 in
set_option maxHeartbeats 40000000 in
theorem c_cpa (l : Launch) (Z : State) (a0 : Array Value) (hw : ∀ d ∈ tables_1, d.before a0 Z = true) (x : Addr) (i n : Nat) (hi : i < n) (f : Nat → Int32) (h0 : Heap) (S0 : W.UStr Z h0 x n f) (EZ : Ext Z.heap h0) (zc : Int32) (fm : Value) (US : UST Z zc fm) : W.MetN l Z (⟨"java/lang/String", "codePointAt", "(I)I"⟩ : MethodName) jdk_42_method_57_code 3 ((Option.some Jvm.ClassFile.FieldType.int)) [] ({ frames := 3, cells := 0, slots := 0, locals := 50 } : Room) #[.ref x, .int (Int32.ofNat i)]  h0 (W.Pure (some (.int (own_pt n f i))) h0) := by
  refine W.MetN.mk (ls0 := #[.val (.ref x), .val (.int (Int32.ofNat i)), .unset]) [] (plainFor_of_name pn_java_lang_String) (fun m => by first | (simp [entryFrame, mkF, argsToLocals, Value.category]; done) | rfl) ?_
  intro p e s m below meth c s₁ hml hret hnm hlk P0
  show W.Go p.tables e below _ (s₁.setTop (mkF m 0 #[.val (.ref x), .val (.int (Int32.ofNat i)), .unset] []))
  obtain ⟨t, kb, cd, N, g, E0, F0, C0, V0, hC, hb, hn⟩ := S0
  refine W.g_aloadN (pc1 := 1) P0.q d18_0 rfl rfl rfl ?_
  refine P0.callV (pc1 := 4) E0 (wd hw (k := 83) rfl) (wd hw (k := 84) rfl) (wd hw (k := 86) rfl) (wd hw (k := 85) rfl) (notFace_of_selects (args := #[]) (mvT P0.hz (wd hw (k := 86) rfl))) (by decide) (W.MetN.pay (W := 0) (c_lat l Z a0 hw x cd hC.cd h0 C0 (P0.extZ EZ all0) zc fm US) P0 (wd hw (k := 87) rfl) (wd hw (k := 10) rfl) (by decide) (by decide)) (argsL := []) (st0 := []) (lenOf pd__R_Z rfl) rfl rfl (Nat.le_of_eq rfl) (by rw [hml]; rfl) (by decide) (by decide) (W.Pure.ok P0.chv) d18_1 rfl ?_
  intro v176 T176 h176 L176 q176 P176
  obtain ⟨rfl, rfl, rfl⟩ := q176
  show W.Go p.tables e below _ (T176.setTop (mkF m 4 #[.val (.ref x), .val (.int (Int32.ofNat i)), .unset] [(.int (if cd = 0 then 1 else 0 : Int32))]))
  rcases hC with ⟨rfl, hN, hg⟩ | ⟨rfl, hN, hg, -⟩ <;> obtain rfl := hN.symm
  · show W.Go p.tables e below _ (T176.setTop (mkF m 4 #[.val (.ref x), .val (.int (Int32.ofNat i)), .unset] [.int 1]))
    refine W.g_ifN (pc2 := 7) P176.q d18_4 rfl (by decide) ?_
    refine W.g_iloadN (pc1 := 8) P176.q d18_7 rfl rfl ?_
    refine W.g_aloadN (pc1 := 9) P176.q d18_8 rfl rfl rfl ?_
    refine P176.getF (host := "") (pc1 := 12) (Or.inl (wd hw (k := 28) rfl)) Via.refl F0 d18_9 rfl ?_
    intro T177 P177
    refine P177.lenG (pc1 := 13) V0 d18_12 rfl ?_
    refine P177.callS (pc1 := 16) (wd hw (k := 88) rfl) (wd hw (k := 89) rfl) (wd hw (k := 10) rfl) (wd hw (k := 90) rfl) (by decide) (W.MetN.pay (W := 0) (c_ci l Z a0 hw i n hi (by omega) h0 (P177.extZ EZ all0) zc fm US) P177 (wd hw (k := 90) rfl) (wd hw (k := 10) rfl) (by decide) (by decide)) (argsL := [(.int (Int32.ofNat i)), (.int (Int32.ofNat n))]) (st0 := []) (lenOf pd_II_R_V rfl) rfl rfl (Nat.le_of_eq rfl) (by rw [hml]; rfl) (by decide) (by decide) (W.Pure.ok P177.chv) d18_13 rfl ?_
    intro v178 T178 h178 L178 q178 P178
    obtain ⟨rfl, rfl, rfl⟩ := q178
    show W.Go p.tables e below _ (T178.setTop (mkF m 16 #[.val (.ref x), .val (.int (Int32.ofNat i)), .unset] []))
    refine W.g_aloadN (pc1 := 17) P178.q d18_16 rfl rfl rfl ?_
    refine P178.getF (host := "") (pc1 := 20) (Or.inl (wd hw (k := 28) rfl)) Via.refl F0 d18_17 rfl ?_
    intro T179 P179
    refine W.g_iloadN (pc1 := 21) P179.q d18_20 rfl rfl ?_
    refine P179.ldBg (pc1 := 22) V0 (i := i) hi d18_21 rfl ?_
    refine W.g_sipush (pc1 := 25) (v := (255 : Int32)) P179.q d18_22 (by decide) rfl ?_
    refine W.g_iand (pc1 := 26) P179.q d18_25 rfl ?_
    rw [(hg i hi).1, StrChars.lo8_mask (hb i hi).1 (hg i hi).2]
    exact P179.retIN hlk hret d18_26 (by decide) (by decide) ⟨by rw [own_pt, if_pos hi, if_neg (fun q => own_lat (hg i hi).2 q.1)], rfl, rfl⟩
  · show W.Go p.tables e below _ (T176.setTop (mkF m 4 #[.val (.ref x), .val (.int (Int32.ofNat i)), .unset] [.int 0]))
    refine W.g_ifY (pc1 := 27) P176.q d18_4 (by decide) rfl rfl ?_
    refine W.g_aloadN (pc1 := 28) P176.q d18_27 rfl rfl rfl ?_
    refine P176.getF (host := "") (pc1 := 31) (Or.inl (wd hw (k := 28) rfl)) Via.refl F0 d18_28 rfl ?_
    intro T180 P180
    refine P180.lenG (pc1 := 32) V0 d18_31 rfl ?_
    refine W.g_iconst (pc1 := 33) (v := (1 : Int32)) P180.q d18_32 (by decide) rfl ?_
    refine W.g_ishr (pc1 := 34) P180.q d18_33 rfl ?_
    rw [StrChars.shr1 hn]
    refine W.g_istoreN (pc1 := 35) (ls2 := #[.val (.ref x), .val (.int (Int32.ofNat i)), .val (.int (Int32.ofNat n))]) P180.q d18_34 rfl rfl ?_
    refine W.g_iloadN (pc1 := 36) P180.q d18_35 rfl rfl ?_
    refine W.g_iloadN (pc1 := 37) P180.q d18_36 rfl rfl ?_
    refine P180.callS (pc1 := 40) (wd hw (k := 88) rfl) (wd hw (k := 89) rfl) (wd hw (k := 10) rfl) (wd hw (k := 90) rfl) (by decide) (W.MetN.pay (W := 0) (c_ci l Z a0 hw i n hi (by omega) h0 (P180.extZ EZ all0) zc fm US) P180 (wd hw (k := 90) rfl) (wd hw (k := 10) rfl) (by decide) (by decide)) (argsL := [(.int (Int32.ofNat i)), (.int (Int32.ofNat n))]) (st0 := []) (lenOf pd_II_R_V rfl) rfl rfl (Nat.le_of_eq rfl) (by rw [hml]; rfl) (by decide) (by decide) (W.Pure.ok P180.chv) d18_37 rfl ?_
    intro v181 T181 h181 L181 q181 P181
    obtain ⟨rfl, rfl, rfl⟩ := q181
    show W.Go p.tables e below _ (T181.setTop (mkF m 40 #[.val (.ref x), .val (.int (Int32.ofNat i)), .val (.int (Int32.ofNat n))] []))
    refine W.g_aloadN (pc1 := 41) P181.q d18_40 rfl rfl rfl ?_
    refine P181.getF (host := "") (pc1 := 44) (Or.inl (wd hw (k := 28) rfl)) Via.refl F0 d18_41 rfl ?_
    intro T182 P182
    refine W.g_iloadN (pc1 := 45) P182.q d18_44 rfl rfl ?_
    refine W.g_iloadN (pc1 := 46) P182.q d18_45 rfl rfl ?_
    refine P182.callS (pc1 := 49) (wd hw (k := 117) rfl) (wd hw (k := 118) rfl) (wd hw (k := 65) rfl) (wd hw (k := 119) rfl) (by decide) (W.MetN.pay (W := 0) (c_cp3 l Z a0 hw t kb i n hi f g hn hg hb h0 V0 (P182.extZ EZ all0) zc fm US) P182 (wd hw (k := 119) rfl) (wd hw (k := 65) rfl) (by decide) (by decide)) (argsL := [(.ref t), (.int (Int32.ofNat i)), (.int (Int32.ofNat n))]) (st0 := []) (lenOf pd_ABII_R_I rfl) rfl rfl (Nat.le_of_eq rfl) (by rw [hml]; rfl) (by decide) (by decide) (W.Pure.ok P182.chv) d18_46 rfl ?_
    intro v183 T183 h183 L183 q183 P183
    obtain ⟨rfl, rfl, rfl⟩ := q183
    show W.Go p.tables e below _ (T183.setTop (mkF m 49 #[.val (.ref x), .val (.int (Int32.ofNat i)), .val (.int (Int32.ofNat n))] [(.int (own_pt n f i))]))
    exact P183.retIN hlk hret d18_49 (by decide) (by decide) ⟨by rfl, rfl, rfl⟩
set_option maxRecDepth 65536 in
set_option maxHeartbeats 40000000 in
theorem c_cmpS (l : Launch) (Z : State) (a0 : Array Value) (hw : ∀ d ∈ tables_1, d.before a0 Z = true) (x y : Addr) (na nb : Nat) (fa fb : Nat → Int32) (ha : na ≤ 3) (hb : nb ≤ 3) (h0 : Heap) (S0 : W.UStr Z h0 x na fa) (S1 : W.UStr Z h0 y nb fb) (EZ : Ext Z.heap h0) (zc : Int32) (fm : Value) (US : UST Z zc fm) : W.MetN l Z (⟨"com/example/broker/broker/Utf8Order", "compare", "(Ljava/lang/String;Ljava/lang/String;)I"⟩ : MethodName) prog_29_method_2_code 6 ((Option.some Jvm.ClassFile.FieldType.int)) [] ({ frames := 4, cells := 0, slots := 0, locals := 70 } : Room) #[.ref x, .ref y]  h0 (W.Pure (some (.int (own_E na nb fa fb 3 0))) h0) := by
  refine W.MetN.mk (ls0 := #[.val (.ref x), .val (.ref y), .unset, .unset, .unset, .unset]) [] (plainFor_of_name pn_com_example_broker_broker_Utf8Order) (fun m => by first | (simp [entryFrame, mkF, argsToLocals, Value.category]; done) | rfl) ?_
  intro p e s m below meth c s₁ hml hret hnm hlk P0
  show W.Go p.tables e below _ (s₁.setTop (mkF m 0 #[.val (.ref x), .val (.ref y), .unset, .unset, .unset, .unset] []))
  have ca : ∀ i, i < na → ChI (fa i) := by obtain ⟨_, _, _, _, _, _, _, _, _, _, q, _⟩ := S0; exact q
  have cb : ∀ i, i < nb → ChI (fb i) := by obtain ⟨_, _, _, _, _, _, _, _, _, _, q, _⟩ := S1; exact q
  refine W.g_aloadN (pc1 := 1) P0.q d9_0 rfl rfl rfl ?_
  refine P0.callV (pc1 := 4) S0.exa (wd hw (k := 44) rfl) (wd hw (k := 45) rfl) (wd hw (k := 47) rfl) (wd hw (k := 46) rfl) (notFace_of_selects (args := #[]) (mvT P0.hz (wd hw (k := 47) rfl))) (by decide) (W.MetN.pay (W := 0) (c_len l Z a0 hw x na fa h0 S0 (P0.extZ EZ all0) zc fm US) P0 (wd hw (k := 48) rfl) (wd hw (k := 10) rfl) (by decide) (by decide)) (argsL := []) (st0 := []) (lenOf pd__R_I rfl) rfl rfl (Nat.le_of_eq rfl) (by rw [hml]; rfl) (by decide) (by decide) (W.Pure.ok P0.chv) d9_1 rfl ?_
  intro v184 T184 h184 L184 q184 P184
  obtain ⟨rfl, rfl, rfl⟩ := q184
  show W.Go p.tables e below _ (T184.setTop (mkF m 4 #[.val (.ref x), .val (.ref y), .unset, .unset, .unset, .unset] [(.int (Int32.ofNat na))]))
  refine W.g_aloadN (pc1 := 5) P184.q d9_4 rfl rfl rfl ?_
  refine P184.callV (pc1 := 8) S1.exa (wd hw (k := 44) rfl) (wd hw (k := 45) rfl) (wd hw (k := 47) rfl) (wd hw (k := 46) rfl) (notFace_of_selects (args := #[]) (mvT P184.hz (wd hw (k := 47) rfl))) (by decide) (W.MetN.pay (W := 1) (c_len l Z a0 hw y nb fb h0 S1 (P184.extZ EZ all0) zc fm US) P184 (wd hw (k := 48) rfl) (wd hw (k := 10) rfl) (by decide) (by decide)) (argsL := []) (st0 := [(.int (Int32.ofNat na))]) (lenOf pd__R_I rfl) rfl rfl (Nat.le_of_eq rfl) (by rw [hml]; rfl) (by decide) (by decide) (W.Pure.ok P184.chv) d9_5 rfl ?_
  intro v185 T185 h185 L185 q185 P185
  obtain ⟨rfl, rfl, rfl⟩ := q185
  show W.Go p.tables e below _ (T185.setTop (mkF m 8 #[.val (.ref x), .val (.ref y), .unset, .unset, .unset, .unset] [(.int (Int32.ofNat nb)), (.int (Int32.ofNat na))]))
  refine P185.callS (pc1 := 11) (wd hw (k := 55) rfl) (wd hw (k := 56) rfl) (wd hw (k := 57) rfl) (wd hw (k := 58) rfl) (by decide) (W.MetN.pay (W := 0) (c_min l Z a0 hw na nb (by omega) (by omega) h0) P185 (wd hw (k := 58) rfl) (wd hw (k := 57) rfl) (by decide) (by decide)) (argsL := [(.int (Int32.ofNat na)), (.int (Int32.ofNat nb))]) (st0 := []) (lenOf pd_II_R_I rfl) rfl rfl (Nat.le_of_eq rfl) (by rw [hml]; rfl) (by decide) (by decide) (W.Pure.ok P185.chv) d9_8 rfl ?_
  intro v186 T186 h186 L186 q186 P186
  obtain ⟨rfl, rfl, rfl⟩ := q186
  show W.Go p.tables e below _ (T186.setTop (mkF m 11 #[.val (.ref x), .val (.ref y), .unset, .unset, .unset, .unset] [(.int (Int32.ofNat (min na nb)))]))
  refine W.g_istoreN (pc1 := 12) (ls2 := #[.val (.ref x), .val (.ref y), .val (.int (Int32.ofNat (min na nb))), .unset, .unset, .unset]) P186.q d9_11 rfl rfl ?_
  refine W.g_iconst (pc1 := 13) (v := (0 : Int32)) P186.q d9_12 (by decide) rfl ?_
  refine W.g_istoreN (pc1 := 14) (ls2 := #[.val (.ref x), .val (.ref y), .val (.int (Int32.ofNat (min na nb))), .val (.int (0 : Int32)), .unset, .unset]) P186.q d9_13 rfl rfl ?_
  have loop : ∀ (k i : Nat), i ≤ na → i ≤ nb → na - i ≤ k → nb - i ≤ k → own_E na nb fa fb k i = own_E na nb fa fb 3 0 → ∀ (z4 z5 : Slot), One z4 → One z5 → ∀ (T1 : State) (L1 : List Loc), W.Pos p l e ({ frames := 4, cells := 0, slots := 0, locals := 70 } : Room) s m #[.ref x, .ref y] below meth c prog_29_method_2_code Z [] [] h0 "com/example/broker/broker/Utf8Order" s.vm T1 L1 0 0 h0 → L1 = [] → W.Go p.tables e below (W.GN s (W.Pure (some (.int (own_E na nb fa fb 3 0))) h0) ({ frames := 4, cells := 0, slots := 0, locals := 70 } : Room)) (T1.setTop (mkF m 14 #[.val (.ref x), .val (.ref y), .val (.int (Int32.ofNat (min na nb))), .val (.int (Int32.ofNat i)), z4, z5] [])) := by
    intro k
    induction k with
    | zero =>
      intro i hia hib hka hkb hE z4 z5 hz4 hz5 T1 L1 P1 hL
      subst hL
      refine W.g_iloadN (pc1 := 15) P1.q d9_14 rfl rfl ?_
      refine W.g_iloadN (pc1 := 16) P1.q d9_15 rfl rfl ?_
      refine W.g_cmpY (pc1 := 59) P1.q d9_16 (by decide) rfl (fun q => by have := (W.lt32 (by omega) (by omega)).mp q; omega) ?_
      refine W.g_aloadN (pc1 := 60) P1.q d9_59 rfl rfl rfl ?_
      refine P1.callV (pc1 := 63) S0.exa (wd hw (k := 44) rfl) (wd hw (k := 45) rfl) (wd hw (k := 47) rfl) (wd hw (k := 46) rfl) (notFace_of_selects (args := #[]) (mvT P1.hz (wd hw (k := 47) rfl))) (by decide) (W.MetN.pay (W := 0) (c_len l Z a0 hw x na fa h0 S0 (P1.extZ EZ all0) zc fm US) P1 (wd hw (k := 48) rfl) (wd hw (k := 10) rfl) (by decide) (by decide)) (argsL := []) (st0 := []) (lenOf pd__R_I rfl) rfl rfl (Nat.le_of_eq rfl) (by rw [hml]; rfl) (by decide) (by decide) (W.Pure.ok P1.chv) d9_60 rfl ?_
      intro v187 T187 h187 L187 q187 P187
      obtain ⟨rfl, rfl, rfl⟩ := q187
      show W.Go p.tables e below _ (T187.setTop (mkF m 63 #[.val (.ref x), .val (.ref y), .val (.int (Int32.ofNat (min na nb))), .val (.int (Int32.ofNat i)), z4, z5] [(.int (Int32.ofNat na))]))
      refine W.g_aloadN (pc1 := 64) P187.q d9_63 rfl rfl rfl ?_
      refine P187.callV (pc1 := 67) S1.exa (wd hw (k := 44) rfl) (wd hw (k := 45) rfl) (wd hw (k := 47) rfl) (wd hw (k := 46) rfl) (notFace_of_selects (args := #[]) (mvT P187.hz (wd hw (k := 47) rfl))) (by decide) (W.MetN.pay (W := 1) (c_len l Z a0 hw y nb fb h0 S1 (P187.extZ EZ all0) zc fm US) P187 (wd hw (k := 48) rfl) (wd hw (k := 10) rfl) (by decide) (by decide)) (argsL := []) (st0 := [(.int (Int32.ofNat na))]) (lenOf pd__R_I rfl) rfl rfl (Nat.le_of_eq rfl) (by rw [hml]; rfl) (by decide) (by decide) (W.Pure.ok P187.chv) d9_64 rfl ?_
      intro v188 T188 h188 L188 q188 P188
      obtain ⟨rfl, rfl, rfl⟩ := q188
      show W.Go p.tables e below _ (T188.setTop (mkF m 67 #[.val (.ref x), .val (.ref y), .val (.int (Int32.ofNat (min na nb))), .val (.int (Int32.ofNat i)), z4, z5] [(.int (Int32.ofNat nb)), (.int (Int32.ofNat na))]))
      refine P188.callS (pc1 := 70) (wd hw (k := 59) rfl) (wd hw (k := 60) rfl) (wd hw (k := 61) rfl) (wd hw (k := 62) rfl) (by decide) (W.MetN.pay (W := 0) (c_icmp l Z a0 hw _ _ h0) P188 (wd hw (k := 62) rfl) (wd hw (k := 61) rfl) (by decide) (by decide)) (argsL := [(.int (Int32.ofNat na)), (.int (Int32.ofNat nb))]) (st0 := []) (lenOf pd_II_R_I rfl) rfl rfl (Nat.le_of_eq rfl) (by rw [hml]; rfl) (by decide) (by decide) (W.Pure.ok P188.chv) d9_67 rfl ?_
      intro v189 T189 h189 L189 q189 P189
      obtain ⟨rfl, rfl, rfl⟩ := q189
      show W.Go p.tables e below _ (T189.setTop (mkF m 70 #[.val (.ref x), .val (.ref y), .val (.int (Int32.ofNat (min na nb))), .val (.int (Int32.ofNat i)), z4, z5] [(.int (own_cmp (Int32.ofNat na) (Int32.ofNat nb)))]))
      exact P189.retIN hlk hret d9_70 (by decide) (by decide) ⟨by rw [← hE, own_end ca cb (by omega) (by omega) hia hib hka hkb (by omega)], rfl, rfl⟩
    | succ k ih =>
      intro i hia hib hka hkb hE z4 z5 hz4 hz5 T1 L1 P1 hL
      subst hL
      refine W.g_iloadN (pc1 := 15) P1.q d9_14 rfl rfl ?_
      refine W.g_iloadN (pc1 := 16) P1.q d9_15 rfl rfl ?_
      refine W.g_cmp (pc1 := 59) (pc2 := 19) P1.q d9_16 (by decide) rfl rfl (fun (h1 : ¬ (Int32.ofNat i) < (Int32.ofNat (min na nb))) => ?_) (fun (h1 : ¬ (¬ (Int32.ofNat i) < (Int32.ofNat (min na nb)))) => ?_)
      · have hx : ¬ i < min na nb := fun q => h1 ((W.lt32 (by omega) (by omega)).mpr q)
        refine W.g_aloadN (pc1 := 60) P1.q d9_59 rfl rfl rfl ?_
        refine P1.callV (pc1 := 63) S0.exa (wd hw (k := 44) rfl) (wd hw (k := 45) rfl) (wd hw (k := 47) rfl) (wd hw (k := 46) rfl) (notFace_of_selects (args := #[]) (mvT P1.hz (wd hw (k := 47) rfl))) (by decide) (W.MetN.pay (W := 0) (c_len l Z a0 hw x na fa h0 S0 (P1.extZ EZ all0) zc fm US) P1 (wd hw (k := 48) rfl) (wd hw (k := 10) rfl) (by decide) (by decide)) (argsL := []) (st0 := []) (lenOf pd__R_I rfl) rfl rfl (Nat.le_of_eq rfl) (by rw [hml]; rfl) (by decide) (by decide) (W.Pure.ok P1.chv) d9_60 rfl ?_
        intro v190 T190 h190 L190 q190 P190
        obtain ⟨rfl, rfl, rfl⟩ := q190
        show W.Go p.tables e below _ (T190.setTop (mkF m 63 #[.val (.ref x), .val (.ref y), .val (.int (Int32.ofNat (min na nb))), .val (.int (Int32.ofNat i)), z4, z5] [(.int (Int32.ofNat na))]))
        refine W.g_aloadN (pc1 := 64) P190.q d9_63 rfl rfl rfl ?_
        refine P190.callV (pc1 := 67) S1.exa (wd hw (k := 44) rfl) (wd hw (k := 45) rfl) (wd hw (k := 47) rfl) (wd hw (k := 46) rfl) (notFace_of_selects (args := #[]) (mvT P190.hz (wd hw (k := 47) rfl))) (by decide) (W.MetN.pay (W := 1) (c_len l Z a0 hw y nb fb h0 S1 (P190.extZ EZ all0) zc fm US) P190 (wd hw (k := 48) rfl) (wd hw (k := 10) rfl) (by decide) (by decide)) (argsL := []) (st0 := [(.int (Int32.ofNat na))]) (lenOf pd__R_I rfl) rfl rfl (Nat.le_of_eq rfl) (by rw [hml]; rfl) (by decide) (by decide) (W.Pure.ok P190.chv) d9_64 rfl ?_
        intro v191 T191 h191 L191 q191 P191
        obtain ⟨rfl, rfl, rfl⟩ := q191
        show W.Go p.tables e below _ (T191.setTop (mkF m 67 #[.val (.ref x), .val (.ref y), .val (.int (Int32.ofNat (min na nb))), .val (.int (Int32.ofNat i)), z4, z5] [(.int (Int32.ofNat nb)), (.int (Int32.ofNat na))]))
        refine P191.callS (pc1 := 70) (wd hw (k := 59) rfl) (wd hw (k := 60) rfl) (wd hw (k := 61) rfl) (wd hw (k := 62) rfl) (by decide) (W.MetN.pay (W := 0) (c_icmp l Z a0 hw _ _ h0) P191 (wd hw (k := 62) rfl) (wd hw (k := 61) rfl) (by decide) (by decide)) (argsL := [(.int (Int32.ofNat na)), (.int (Int32.ofNat nb))]) (st0 := []) (lenOf pd_II_R_I rfl) rfl rfl (Nat.le_of_eq rfl) (by rw [hml]; rfl) (by decide) (by decide) (W.Pure.ok P191.chv) d9_67 rfl ?_
        intro v192 T192 h192 L192 q192 P192
        obtain ⟨rfl, rfl, rfl⟩ := q192
        show W.Go p.tables e below _ (T192.setTop (mkF m 70 #[.val (.ref x), .val (.ref y), .val (.int (Int32.ofNat (min na nb))), .val (.int (Int32.ofNat i)), z4, z5] [(.int (own_cmp (Int32.ofNat na) (Int32.ofNat nb)))]))
        exact P192.retIN hlk hret d9_70 (by decide) (by decide) ⟨by rw [← hE, own_end ca cb (by omega) (by omega) hia hib hka hkb (by omega)], rfl, rfl⟩
      · have hx : i < min na nb := (W.lt32 (by omega) (by omega)).mp (Decidable.byContradiction h1)
        have hxa : i < na := by omega
        have hxb : i < nb := by omega
        refine W.g_aloadN (pc1 := 20) P1.q d9_19 rfl rfl rfl ?_
        refine W.g_iloadN (pc1 := 21) P1.q d9_20 rfl rfl ?_
        refine P1.callV (pc1 := 24) S0.exa (wd hw (k := 78) rfl) (wd hw (k := 79) rfl) (wd hw (k := 81) rfl) (wd hw (k := 80) rfl) (notFace_of_selects (args := #[]) (mvT P1.hz (wd hw (k := 81) rfl))) (by decide) (W.MetN.pay (W := 0) (c_cpa l Z a0 hw x i na hxa fa h0 S0 (P1.extZ EZ all0) zc fm US) P1 (wd hw (k := 82) rfl) (wd hw (k := 10) rfl) (by decide) (by decide)) (argsL := [(.int (Int32.ofNat i))]) (st0 := []) (lenOf pd_I_R_I rfl) rfl rfl (Nat.le_of_eq rfl) (by rw [hml]; rfl) (by decide) (by decide) (W.Pure.ok P1.chv) d9_21 rfl ?_
        intro v193 T193 h193 L193 q193 P193
        obtain ⟨rfl, rfl, rfl⟩ := q193
        show W.Go p.tables e below _ (T193.setTop (mkF m 24 #[.val (.ref x), .val (.ref y), .val (.int (Int32.ofNat (min na nb))), .val (.int (Int32.ofNat i)), z4, z5] [(.int (own_pt na fa i))]))
        refine W.g_istore (pc1 := 26) (ls2 := #[.val (.ref x), .val (.ref y), .val (.int (Int32.ofNat (min na nb))), .val (.int (Int32.ofNat i)), .val (.int (own_pt na fa i)), z5]) P193.q d9_24 (W.stI rfl hz4 rfl) rfl ?_
        refine W.g_aloadN (pc1 := 27) P193.q d9_26 rfl rfl rfl ?_
        refine W.g_iloadN (pc1 := 28) P193.q d9_27 rfl rfl ?_
        refine P193.callV (pc1 := 31) S1.exa (wd hw (k := 78) rfl) (wd hw (k := 79) rfl) (wd hw (k := 81) rfl) (wd hw (k := 80) rfl) (notFace_of_selects (args := #[]) (mvT P193.hz (wd hw (k := 81) rfl))) (by decide) (W.MetN.pay (W := 0) (c_cpa l Z a0 hw y i nb hxb fb h0 S1 (P193.extZ EZ all0) zc fm US) P193 (wd hw (k := 82) rfl) (wd hw (k := 10) rfl) (by decide) (by decide)) (argsL := [(.int (Int32.ofNat i))]) (st0 := []) (lenOf pd_I_R_I rfl) rfl rfl (Nat.le_of_eq rfl) (by rw [hml]; rfl) (by decide) (by decide) (W.Pure.ok P193.chv) d9_28 rfl ?_
        intro v194 T194 h194 L194 q194 P194
        obtain ⟨rfl, rfl, rfl⟩ := q194
        show W.Go p.tables e below _ (T194.setTop (mkF m 31 #[.val (.ref x), .val (.ref y), .val (.int (Int32.ofNat (min na nb))), .val (.int (Int32.ofNat i)), .val (.int (own_pt na fa i)), z5] [(.int (own_pt nb fb i))]))
        refine W.g_istore (pc1 := 33) (ls2 := #[.val (.ref x), .val (.ref y), .val (.int (Int32.ofNat (min na nb))), .val (.int (Int32.ofNat i)), .val (.int (own_pt na fa i)), .val (.int (own_pt nb fb i))]) P194.q d9_31 (W.stI rfl hz5 rfl) rfl ?_
        refine W.g_iload (pc1 := 35) P194.q d9_33 rfl rfl ?_
        refine W.g_iload (pc1 := 37) P194.q d9_35 rfl rfl ?_
        refine W.g_cmp (pc1 := 48) (pc2 := 40) P194.q d9_37 (by decide) rfl rfl (fun (h2 : (own_pt na fa i) = (own_pt nb fb i)) => ?_) (fun (h2 : ¬ ((own_pt na fa i) = (own_pt nb fb i))) => ?_)
        · refine W.g_iloadN (pc1 := 49) P194.q d9_48 rfl rfl ?_
          refine W.g_iload (pc1 := 51) P194.q d9_49 rfl rfl ?_
          refine P194.callS (pc1 := 54) (wd hw (k := 129) rfl) (wd hw (k := 130) rfl) (wd hw (k := 125) rfl) (wd hw (k := 131) rfl) (by decide) (W.MetN.pay (W := 1) (c_cc l Z a0 hw _ h0) P194 (wd hw (k := 131) rfl) (wd hw (k := 125) rfl) (by decide) (by decide)) (argsL := [(.int (own_pt na fa i))]) (st0 := [(.int (Int32.ofNat i))]) (lenOf pd_I_R_I rfl) rfl rfl (Nat.le_of_eq rfl) (by rw [hml]; rfl) (by decide) (by decide) (W.Pure.ok P194.chv) d9_51 rfl ?_
          intro v196 T196 h196 L196 q196 P196
          obtain ⟨rfl, rfl, rfl⟩ := q196
          show W.Go p.tables e below _ (T196.setTop (mkF m 54 #[.val (.ref x), .val (.ref y), .val (.int (Int32.ofNat (min na nb))), .val (.int (Int32.ofNat i)), .val (.int (own_pt na fa i)), .val (.int (own_pt nb fb i))] [(.int (Int32.ofNat (own_w (own_pt na fa i)))), (.int (Int32.ofNat i))]))
          refine W.g_iadd (pc1 := 55) P196.q d9_54 rfl ?_
          rw [add32]
          refine W.g_istoreN (pc1 := 56) (ls2 := #[.val (.ref x), .val (.ref y), .val (.int (Int32.ofNat (min na nb))), .val (.int (Int32.ofNat (i + own_w (own_pt na fa i)))), .val (.int (own_pt na fa i)), .val (.int (own_pt nb fb i))]) P196.q d9_55 rfl rfl ?_
          refine W.g_goto (pc1 := 14) P196.q d9_56 (by decide) rfl ?_
          have w1 := own_ptw ca hxa
          have w2 := own_ptw cb hxb
          rw [← h2] at w2
          have w3 := own_w1 (own_pt na fa i)
          exact ih _ w1 w2 (by omega) (by omega) (by rw [← hE, own_E, if_pos h2, if_neg (own_ptp ca hxa)]) _ _ (Or.inr ⟨_, rfl, rfl⟩) (Or.inr ⟨_, rfl, rfl⟩) _ _ P196 rfl
        · refine W.g_iload (pc1 := 42) P194.q d9_40 rfl rfl ?_
          refine W.g_iload (pc1 := 44) P194.q d9_42 rfl rfl ?_
          refine P194.callS (pc1 := 47) (wd hw (k := 59) rfl) (wd hw (k := 60) rfl) (wd hw (k := 61) rfl) (wd hw (k := 62) rfl) (by decide) (W.MetN.pay (W := 0) (c_icmp l Z a0 hw _ _ h0) P194 (wd hw (k := 62) rfl) (wd hw (k := 61) rfl) (by decide) (by decide)) (argsL := [(.int (own_pt na fa i)), (.int (own_pt nb fb i))]) (st0 := []) (lenOf pd_II_R_I rfl) rfl rfl (Nat.le_of_eq rfl) (by rw [hml]; rfl) (by decide) (by decide) (W.Pure.ok P194.chv) d9_44 rfl ?_
          intro v195 T195 h195 L195 q195 P195
          obtain ⟨rfl, rfl, rfl⟩ := q195
          show W.Go p.tables e below _ (T195.setTop (mkF m 47 #[.val (.ref x), .val (.ref y), .val (.int (Int32.ofNat (min na nb))), .val (.int (Int32.ofNat i)), .val (.int (own_pt na fa i)), .val (.int (own_pt nb fb i))] [(.int (own_cmp (own_pt na fa i) (own_pt nb fb i)))]))
          exact P195.retIN hlk hret d9_47 (by decide) (by decide) ⟨by rw [← hE, own_E, if_neg h2], rfl, rfl⟩
  exact loop 3 0 (Nat.zero_le _) (Nat.zero_le _) (by omega) (by omega) rfl .unset .unset One.u One.u _ _ P186 rfl
theorem own_m3 (u : Int32) : ∃ a : Nat, a ≤ 3 ∧ u &&& 3 = Int32.ofNat a := by
  rcases own_mask3 u with q | q | q | q
  · exact ⟨0, by decide, q⟩
  · exact ⟨1, by decide, q⟩
  · exact ⟨2, by decide, q⟩
  · exact ⟨3, by decide, q⟩
theorem own_cmp3 (x y : Int32) : own_cmp x y = -1 ∨ own_cmp x y = 0 ∨ own_cmp x y = 1 := by
  unfold own_cmp; split
  · exact Or.inl rfl
  · split
    · exact Or.inr (Or.inr rfl)
    · exact Or.inr (Or.inl rfl)
theorem own_ch3 (p0 q0 p1 q1 p2 q2 : Int32) : own_ch p0 q0 p1 q1 p2 q2 = -1 ∨ own_ch p0 q0 p1 q1 p2 q2 = 0 ∨ own_ch p0 q0 p1 q1 p2 q2 = 1 := by
  unfold own_ch; split
  · exact own_cmp3 _ _
  · split <;> exact own_cmp3 _ _
def Q1 (n : Nat) (v : Option Value) (h : Heap) (L : List Loc) : Prop := v = some (.int 1) ∧ W.Frw [] n L
set_option maxRecDepth 65536 in
set_option maxHeartbeats 40000000 in
theorem rm1 (l : Launch) (Z : State) (a0 : Array Value) (hw : ∀ d ∈ tables_1, d.before a0 Z = true) (wS : ∀ a ∈ Bundle.stringAtoms, a.before a0 Z = true) (hEL : EW Z a0 ownEL) (p0 p1 p2 p3 ct : Int32) (h0 : Heap) (EZ : Ext Z.heap h0) (zc : Int32) (fm : Value) (US : UST Z zc fm) : W.MetW l Z ownEL x code maxLocals (ret) tables_1 room_1 #[.int p0, .int p1, .int p2, .int p3, .int ct] [] h0 (Q1 h0.size) := by
  refine W.MetW.mk (ls0 := #[.val (.int p0), .val (.int p1), .val (.int p2), .val (.int p3), .val (.int ct), .unset, .unset, .unset, .unset, .unset, .unset, .unset, .unset, .unset, .unset, .unset, .unset, .unset, .unset, .unset, .unset, .unset, .unset]) [] (plainFor_of_name pn_com_example_broker_broker_Utf8OrderComparePinLaw) (fun m => by first | (simp [entryFrame, mkF, argsToLocals, Value.category, maxLocals]; done) | rfl) ?_
  intro p e s m below meth c s₁ hml hret hnm hlk hss P0
  have hml : c.maxLocals = 23 := hml
  show W.Go p.tables e below _ (s₁.setTop (mkF m 0 #[.val (.int p0), .val (.int p1), .val (.int p2), .val (.int p3), .val (.int ct), .unset, .unset, .unset, .unset, .unset, .unset, .unset, .unset, .unset, .unset, .unset, .unset, .unset, .unset, .unset, .unset, .unset, .unset] []))
  refine W.g_iload (pc1 := 2) P0.q at_0 rfl rfl ?_
  refine W.g_iconst (pc1 := 3) (v := (3 : Int32)) P0.q at_2 (by decide) rfl ?_
  refine W.g_iand (pc1 := 4) P0.q at_3 rfl ?_
  obtain ⟨na, hna, ena⟩ := own_m3 ct
  rw [ena]
  refine W.g_istore (pc1 := 6) (ls2 := #[.val (.int p0), .val (.int p1), .val (.int p2), .val (.int p3), .val (.int ct), .val (.int (Int32.ofNat na)), .unset, .unset, .unset, .unset, .unset, .unset, .unset, .unset, .unset, .unset, .unset, .unset, .unset, .unset, .unset, .unset, .unset]) P0.q at_4 rfl rfl ?_
  refine W.g_iload (pc1 := 8) P0.q at_6 rfl rfl ?_
  refine W.g_iconst (pc1 := 9) (v := (2 : Int32)) P0.q at_8 (by decide) rfl ?_
  refine W.g_iushr (pc1 := 10) P0.q at_9 rfl ?_
  refine W.g_iconst (pc1 := 11) (v := (3 : Int32)) P0.q at_10 (by decide) rfl ?_
  refine W.g_iand (pc1 := 12) P0.q at_11 rfl ?_
  obtain ⟨nb, hnb, enb⟩ := own_m3 (Jvm.Free.XT.ushr ct 2)
  rw [enb]
  show W.Go p.tables e below _ (s₁.setTop (mkF m 12 #[.val (.int p0), .val (.int p1), .val (.int p2), .val (.int p3), .val (.int ct), .val (.int (Int32.ofNat na)), .unset, .unset, .unset, .unset, .unset, .unset, .unset, .unset, .unset, .unset, .unset, .unset, .unset, .unset, .unset, .unset, .unset] [(.int (Int32.ofNat nb))]))
  refine W.g_istore (pc1 := 14) (ls2 := #[.val (.int p0), .val (.int p1), .val (.int p2), .val (.int p3), .val (.int ct), .val (.int (Int32.ofNat na)), .val (.int (Int32.ofNat nb)), .unset, .unset, .unset, .unset, .unset, .unset, .unset, .unset, .unset, .unset, .unset, .unset, .unset, .unset, .unset, .unset]) P0.q at_12 rfl rfl ?_
  refine W.g_iloadN (pc1 := 15) P0.q at_14 rfl rfl ?_
  refine P0.ldcI (pc1 := 17) (wd hw (k := 0) rfl) at_15 rfl ?_
  refine W.g_iand (pc1 := 18) P0.q at_17 rfl ?_
  refine W.g_i2c (pc1 := 19) P0.q at_18 rfl ?_
  refine W.g_iload (pc1 := 21) P0.q at_19 rfl rfl ?_
  refine W.g_iconst (pc1 := 22) (v := (4 : Int32)) P0.q at_21 (by decide) rfl ?_
  refine W.g_iushr (pc1 := 23) P0.q at_22 rfl ?_
  refine W.g_iconst (pc1 := 24) (v := (3 : Int32)) P0.q at_23 (by decide) rfl ?_
  refine W.g_iand (pc1 := 25) P0.q at_24 rfl ?_
  refine P0.callS (pc1 := 28) (wd hw (k := 1) rfl) (wd hw (k := 2) rfl) (wd hw (k := 3) rfl) (wd hw (k := 4) rfl) (by decide) (W.MetN.pay (W := 0) (c_shape l Z a0 hw _ _ (own_chn _) h0) P0 (wd hw (k := 4) rfl) (wd hw (k := 3) rfl) (by decide) (by decide)) (argsL := [(.int (p0 &&& (65535 : Int32)).toUInt32.toUInt16.toUInt32.toInt32), (.int ((Jvm.Free.XT.ushr ct (4 : Int32)) &&& (3 : Int32)))]) (st0 := []) (lenOf pd_CI_R_C rfl) rfl rfl (Nat.le_of_eq rfl) (by rw [hml]; rfl) (by decide) (by decide) (QCh.ok P0.chv) at_25 rfl ?_
  intro v197 T197 h197 L197 q197 P197
  obtain ⟨rfl, rfl, ca0, rfl, hca0⟩ := q197
  show W.Go p.tables e below _ (T197.setTop (mkF m 28 #[.val (.int p0), .val (.int p1), .val (.int p2), .val (.int p3), .val (.int ct), .val (.int (Int32.ofNat na)), .val (.int (Int32.ofNat nb)), .unset, .unset, .unset, .unset, .unset, .unset, .unset, .unset, .unset, .unset, .unset, .unset, .unset, .unset, .unset, .unset] [(.int ca0)]))
  refine W.g_istore (pc1 := 30) (ls2 := #[.val (.int p0), .val (.int p1), .val (.int p2), .val (.int p3), .val (.int ct), .val (.int (Int32.ofNat na)), .val (.int (Int32.ofNat nb)), .val (.int ca0), .unset, .unset, .unset, .unset, .unset, .unset, .unset, .unset, .unset, .unset, .unset, .unset, .unset, .unset, .unset]) P197.q at_28 rfl rfl ?_
  refine W.g_iloadN (pc1 := 31) P197.q at_30 rfl rfl ?_
  refine W.g_bipush (pc1 := 33) (v := (16 : Int32)) P197.q at_31 (by decide) rfl ?_
  refine W.g_iushr (pc1 := 34) P197.q at_33 rfl ?_
  refine W.g_i2c (pc1 := 35) P197.q at_34 rfl ?_
  refine W.g_iload (pc1 := 37) P197.q at_35 rfl rfl ?_
  refine W.g_bipush (pc1 := 39) (v := (6 : Int32)) P197.q at_37 (by decide) rfl ?_
  refine W.g_iushr (pc1 := 40) P197.q at_39 rfl ?_
  refine W.g_iconst (pc1 := 41) (v := (3 : Int32)) P197.q at_40 (by decide) rfl ?_
  refine W.g_iand (pc1 := 42) P197.q at_41 rfl ?_
  refine P197.callS (pc1 := 45) (wd hw (k := 1) rfl) (wd hw (k := 2) rfl) (wd hw (k := 3) rfl) (wd hw (k := 4) rfl) (by decide) (W.MetN.pay (W := 0) (c_shape l Z a0 hw _ _ (own_chn _) h0) P197 (wd hw (k := 4) rfl) (wd hw (k := 3) rfl) (by decide) (by decide)) (argsL := [(.int (Jvm.Free.XT.ushr p0 (16 : Int32)).toUInt32.toUInt16.toUInt32.toInt32), (.int ((Jvm.Free.XT.ushr ct (6 : Int32)) &&& (3 : Int32)))]) (st0 := []) (lenOf pd_CI_R_C rfl) rfl rfl (Nat.le_of_eq rfl) (by rw [hml]; rfl) (by decide) (by decide) (QCh.ok P197.chv) at_42 rfl ?_
  intro v198 T198 h198 L198 q198 P198
  obtain ⟨rfl, rfl, ca1, rfl, hca1⟩ := q198
  show W.Go p.tables e below _ (T198.setTop (mkF m 45 #[.val (.int p0), .val (.int p1), .val (.int p2), .val (.int p3), .val (.int ct), .val (.int (Int32.ofNat na)), .val (.int (Int32.ofNat nb)), .val (.int ca0), .unset, .unset, .unset, .unset, .unset, .unset, .unset, .unset, .unset, .unset, .unset, .unset, .unset, .unset, .unset] [(.int ca1)]))
  refine W.g_istore (pc1 := 47) (ls2 := #[.val (.int p0), .val (.int p1), .val (.int p2), .val (.int p3), .val (.int ct), .val (.int (Int32.ofNat na)), .val (.int (Int32.ofNat nb)), .val (.int ca0), .val (.int ca1), .unset, .unset, .unset, .unset, .unset, .unset, .unset, .unset, .unset, .unset, .unset, .unset, .unset, .unset]) P198.q at_45 rfl rfl ?_
  refine W.g_iloadN (pc1 := 48) P198.q at_47 rfl rfl ?_
  refine P198.ldcI (pc1 := 50) (wd hw (k := 0) rfl) at_48 rfl ?_
  refine W.g_iand (pc1 := 51) P198.q at_50 rfl ?_
  refine W.g_i2c (pc1 := 52) P198.q at_51 rfl ?_
  refine W.g_iload (pc1 := 54) P198.q at_52 rfl rfl ?_
  refine W.g_bipush (pc1 := 56) (v := (8 : Int32)) P198.q at_54 (by decide) rfl ?_
  refine W.g_iushr (pc1 := 57) P198.q at_56 rfl ?_
  refine W.g_iconst (pc1 := 58) (v := (3 : Int32)) P198.q at_57 (by decide) rfl ?_
  refine W.g_iand (pc1 := 59) P198.q at_58 rfl ?_
  refine P198.callS (pc1 := 62) (wd hw (k := 1) rfl) (wd hw (k := 2) rfl) (wd hw (k := 3) rfl) (wd hw (k := 4) rfl) (by decide) (W.MetN.pay (W := 0) (c_shape l Z a0 hw _ _ (own_chn _) h0) P198 (wd hw (k := 4) rfl) (wd hw (k := 3) rfl) (by decide) (by decide)) (argsL := [(.int (p1 &&& (65535 : Int32)).toUInt32.toUInt16.toUInt32.toInt32), (.int ((Jvm.Free.XT.ushr ct (8 : Int32)) &&& (3 : Int32)))]) (st0 := []) (lenOf pd_CI_R_C rfl) rfl rfl (Nat.le_of_eq rfl) (by rw [hml]; rfl) (by decide) (by decide) (QCh.ok P198.chv) at_59 rfl ?_
  intro v199 T199 h199 L199 q199 P199
  obtain ⟨rfl, rfl, ca2, rfl, hca2⟩ := q199
  show W.Go p.tables e below _ (T199.setTop (mkF m 62 #[.val (.int p0), .val (.int p1), .val (.int p2), .val (.int p3), .val (.int ct), .val (.int (Int32.ofNat na)), .val (.int (Int32.ofNat nb)), .val (.int ca0), .val (.int ca1), .unset, .unset, .unset, .unset, .unset, .unset, .unset, .unset, .unset, .unset, .unset, .unset, .unset, .unset] [(.int ca2)]))
  refine W.g_istore (pc1 := 64) (ls2 := #[.val (.int p0), .val (.int p1), .val (.int p2), .val (.int p3), .val (.int ct), .val (.int (Int32.ofNat na)), .val (.int (Int32.ofNat nb)), .val (.int ca0), .val (.int ca1), .val (.int ca2), .unset, .unset, .unset, .unset, .unset, .unset, .unset, .unset, .unset, .unset, .unset, .unset, .unset]) P199.q at_62 rfl rfl ?_
  refine W.g_iload (pc1 := 66) P199.q at_64 rfl rfl ?_
  refine W.g_bipush (pc1 := 68) (v := (10 : Int32)) P199.q at_66 (by decide) rfl ?_
  refine W.g_iushr (pc1 := 69) P199.q at_68 rfl ?_
  refine W.g_iconst (pc1 := 70) (v := (3 : Int32)) P199.q at_69 (by decide) rfl ?_
  refine W.g_iand (pc1 := 71) P199.q at_70 rfl ?_
  refine W.g_istore (pc1 := 73) (ls2 := #[.val (.int p0), .val (.int p1), .val (.int p2), .val (.int p3), .val (.int ct), .val (.int (Int32.ofNat na)), .val (.int (Int32.ofNat nb)), .val (.int ca0), .val (.int ca1), .val (.int ca2), .val (.int ((Jvm.Free.XT.ushr ct (10 : Int32)) &&& (3 : Int32))), .unset, .unset, .unset, .unset, .unset, .unset, .unset, .unset, .unset, .unset, .unset, .unset]) P199.q at_71 rfl rfl ?_
  refine W.g_iload (pc1 := 75) P199.q at_73 rfl rfl ?_
  refine W.g_bipush (pc1 := 77) (v := (12 : Int32)) P199.q at_75 (by decide) rfl ?_
  refine W.g_iushr (pc1 := 78) P199.q at_77 rfl ?_
  refine W.g_iconst (pc1 := 79) (v := (3 : Int32)) P199.q at_78 (by decide) rfl ?_
  refine W.g_iand (pc1 := 80) P199.q at_79 rfl ?_
  refine W.g_istore (pc1 := 82) (ls2 := #[.val (.int p0), .val (.int p1), .val (.int p2), .val (.int p3), .val (.int ct), .val (.int (Int32.ofNat na)), .val (.int (Int32.ofNat nb)), .val (.int ca0), .val (.int ca1), .val (.int ca2), .val (.int ((Jvm.Free.XT.ushr ct (10 : Int32)) &&& (3 : Int32))), .val (.int ((Jvm.Free.XT.ushr ct (12 : Int32)) &&& (3 : Int32))), .unset, .unset, .unset, .unset, .unset, .unset, .unset, .unset, .unset, .unset, .unset]) P199.q at_80 rfl rfl ?_
  refine W.g_iload (pc1 := 84) P199.q at_82 rfl rfl ?_
  refine W.g_bipush (pc1 := 86) (v := (14 : Int32)) P199.q at_84 (by decide) rfl ?_
  refine W.g_iushr (pc1 := 87) P199.q at_86 rfl ?_
  refine W.g_iconst (pc1 := 88) (v := (3 : Int32)) P199.q at_87 (by decide) rfl ?_
  refine W.g_iand (pc1 := 89) P199.q at_88 rfl ?_
  refine W.g_istore (pc1 := 91) (ls2 := #[.val (.int p0), .val (.int p1), .val (.int p2), .val (.int p3), .val (.int ct), .val (.int (Int32.ofNat na)), .val (.int (Int32.ofNat nb)), .val (.int ca0), .val (.int ca1), .val (.int ca2), .val (.int ((Jvm.Free.XT.ushr ct (10 : Int32)) &&& (3 : Int32))), .val (.int ((Jvm.Free.XT.ushr ct (12 : Int32)) &&& (3 : Int32))), .val (.int ((Jvm.Free.XT.ushr ct (14 : Int32)) &&& (3 : Int32))), .unset, .unset, .unset, .unset, .unset, .unset, .unset, .unset, .unset, .unset]) P199.q at_89 rfl rfl ?_
  refine W.g_iload (pc1 := 93) P199.q at_91 rfl rfl ?_
  refine W.g_iconst (pc1 := 94) (v := (3 : Int32)) P199.q at_93 (by decide) rfl ?_
  have J0 : ∀ (TJ0 : State) (LJ0 : List Loc) (cb0 : Int32), W.Pos p l e room_1 s m #[.int p0, .int p1, .int p2, .int p3, .int ct] below meth c code Z ownEL [] h0 "com/example/broker/broker/Utf8OrderComparePinLaw" s.vm TJ0 LJ0 0 0 h0 → ChI cb0 → W.Go p.tables e below (W.GW s Z ownEL h0 (Q1 h0.size) room_1) (TJ0.setTop (mkF m 112 #[.val (.int p0), .val (.int p1), .val (.int p2), .val (.int p3), .val (.int ct), .val (.int (Int32.ofNat na)), .val (.int (Int32.ofNat nb)), .val (.int ca0), .val (.int ca1), .val (.int ca2), .val (.int ((Jvm.Free.XT.ushr ct (10 : Int32)) &&& (3 : Int32))), .val (.int ((Jvm.Free.XT.ushr ct (12 : Int32)) &&& (3 : Int32))), .val (.int ((Jvm.Free.XT.ushr ct (14 : Int32)) &&& (3 : Int32))), .unset, .unset, .unset, .unset, .unset, .unset, .unset, .unset, .unset, .unset] [.int cb0])) := by
    intro TJ0 LJ0 cb0 PJ0 hcb0
    refine W.g_istore (pc1 := 114) (ls2 := #[.val (.int p0), .val (.int p1), .val (.int p2), .val (.int p3), .val (.int ct), .val (.int (Int32.ofNat na)), .val (.int (Int32.ofNat nb)), .val (.int ca0), .val (.int ca1), .val (.int ca2), .val (.int ((Jvm.Free.XT.ushr ct (10 : Int32)) &&& (3 : Int32))), .val (.int ((Jvm.Free.XT.ushr ct (12 : Int32)) &&& (3 : Int32))), .val (.int ((Jvm.Free.XT.ushr ct (14 : Int32)) &&& (3 : Int32))), .val (.int cb0), .unset, .unset, .unset, .unset, .unset, .unset, .unset, .unset, .unset]) PJ0.q at_112 rfl rfl ?_
    refine W.g_iload (pc1 := 116) PJ0.q at_114 rfl rfl ?_
    refine W.g_iconst (pc1 := 117) (v := (3 : Int32)) PJ0.q at_116 (by decide) rfl ?_
    have J1 : ∀ (TJ1 : State) (LJ1 : List Loc) (cb1 : Int32), W.Pos p l e room_1 s m #[.int p0, .int p1, .int p2, .int p3, .int ct] below meth c code Z ownEL [] h0 "com/example/broker/broker/Utf8OrderComparePinLaw" s.vm TJ1 LJ1 0 0 h0 → ChI cb1 → W.Go p.tables e below (W.GW s Z ownEL h0 (Q1 h0.size) room_1) (TJ1.setTop (mkF m 135 #[.val (.int p0), .val (.int p1), .val (.int p2), .val (.int p3), .val (.int ct), .val (.int (Int32.ofNat na)), .val (.int (Int32.ofNat nb)), .val (.int ca0), .val (.int ca1), .val (.int ca2), .val (.int ((Jvm.Free.XT.ushr ct (10 : Int32)) &&& (3 : Int32))), .val (.int ((Jvm.Free.XT.ushr ct (12 : Int32)) &&& (3 : Int32))), .val (.int ((Jvm.Free.XT.ushr ct (14 : Int32)) &&& (3 : Int32))), .val (.int cb0), .unset, .unset, .unset, .unset, .unset, .unset, .unset, .unset, .unset] [.int cb1])) := by
      intro TJ1 LJ1 cb1 PJ1 hcb1
      refine W.g_istore (pc1 := 137) (ls2 := #[.val (.int p0), .val (.int p1), .val (.int p2), .val (.int p3), .val (.int ct), .val (.int (Int32.ofNat na)), .val (.int (Int32.ofNat nb)), .val (.int ca0), .val (.int ca1), .val (.int ca2), .val (.int ((Jvm.Free.XT.ushr ct (10 : Int32)) &&& (3 : Int32))), .val (.int ((Jvm.Free.XT.ushr ct (12 : Int32)) &&& (3 : Int32))), .val (.int ((Jvm.Free.XT.ushr ct (14 : Int32)) &&& (3 : Int32))), .val (.int cb0), .val (.int cb1), .unset, .unset, .unset, .unset, .unset, .unset, .unset, .unset]) PJ1.q at_135 rfl rfl ?_
      refine W.g_iload (pc1 := 139) PJ1.q at_137 rfl rfl ?_
      refine W.g_iconst (pc1 := 140) (v := (3 : Int32)) PJ1.q at_139 (by decide) rfl ?_
      have J2 : ∀ (TJ2 : State) (LJ2 : List Loc) (cb2 : Int32), W.Pos p l e room_1 s m #[.int p0, .int p1, .int p2, .int p3, .int ct] below meth c code Z ownEL [] h0 "com/example/broker/broker/Utf8OrderComparePinLaw" s.vm TJ2 LJ2 0 0 h0 → ChI cb2 → W.Go p.tables e below (W.GW s Z ownEL h0 (Q1 h0.size) room_1) (TJ2.setTop (mkF m 158 #[.val (.int p0), .val (.int p1), .val (.int p2), .val (.int p3), .val (.int ct), .val (.int (Int32.ofNat na)), .val (.int (Int32.ofNat nb)), .val (.int ca0), .val (.int ca1), .val (.int ca2), .val (.int ((Jvm.Free.XT.ushr ct (10 : Int32)) &&& (3 : Int32))), .val (.int ((Jvm.Free.XT.ushr ct (12 : Int32)) &&& (3 : Int32))), .val (.int ((Jvm.Free.XT.ushr ct (14 : Int32)) &&& (3 : Int32))), .val (.int cb0), .val (.int cb1), .unset, .unset, .unset, .unset, .unset, .unset, .unset, .unset] [.int cb2])) := by
        intro TJ2 LJ2 cb2 PJ2 hcb2
        refine W.g_istore (pc1 := 160) (ls2 := #[.val (.int p0), .val (.int p1), .val (.int p2), .val (.int p3), .val (.int ct), .val (.int (Int32.ofNat na)), .val (.int (Int32.ofNat nb)), .val (.int ca0), .val (.int ca1), .val (.int ca2), .val (.int ((Jvm.Free.XT.ushr ct (10 : Int32)) &&& (3 : Int32))), .val (.int ((Jvm.Free.XT.ushr ct (12 : Int32)) &&& (3 : Int32))), .val (.int ((Jvm.Free.XT.ushr ct (14 : Int32)) &&& (3 : Int32))), .val (.int cb0), .val (.int cb1), .val (.int cb2), .unset, .unset, .unset, .unset, .unset, .unset, .unset]) PJ2.q at_158 rfl rfl ?_
        refine W.g_iload (pc1 := 162) PJ2.q at_160 rfl rfl ?_
        refine W.g_iload (pc1 := 164) PJ2.q at_162 rfl rfl ?_
        refine W.g_iload (pc1 := 166) PJ2.q at_164 rfl rfl ?_
        refine W.g_iload (pc1 := 168) PJ2.q at_166 rfl rfl ?_
        refine PJ2.callSW (pc1 := 171) (wd hw (k := 5) rfl) (wd hw (k := 6) rfl) (wd hw (k := 3) rfl) (wd hw (k := 7) rfl) (by decide) (W.MetW.pay (W := 0) (c_str l Z a0 hw wS hEL ca0 ca1 ca2 hca0 hca1 hca2 na hna h0 (PJ2.extZ EZ all0) zc fm US) PJ2 hEL all0 (wd hw (k := 7) rfl) (wd hw (k := 3) rfl) (by decide) (by decide)) (argsL := [(.int ca0), (.int ca1), (.int ca2), (.int (Int32.ofNat na))]) (st0 := []) (lenOf pd_CCCI_R_Ljava_lang_String rfl) rfl rfl (Nat.le_of_eq rfl) (by rw [hml]; rfl) (by decide) (by decide) (fun _ _ _ q => by obtain ⟨_, _, q2, _⟩ := q; exact q2.up PJ2.sz all0) at_168 rfl ?_
        intro v200 T200 h200 L200 q200 P200 R200
        obtain ⟨y200, rfl, f200, E200, S200⟩ := q200
        show W.Go p.tables e below _ (T200.setTop (mkF m 171 #[.val (.int p0), .val (.int p1), .val (.int p2), .val (.int p3), .val (.int ct), .val (.int (Int32.ofNat na)), .val (.int (Int32.ofNat nb)), .val (.int ca0), .val (.int ca1), .val (.int ca2), .val (.int ((Jvm.Free.XT.ushr ct (10 : Int32)) &&& (3 : Int32))), .val (.int ((Jvm.Free.XT.ushr ct (12 : Int32)) &&& (3 : Int32))), .val (.int ((Jvm.Free.XT.ushr ct (14 : Int32)) &&& (3 : Int32))), .val (.int cb0), .val (.int cb1), .val (.int cb2), .unset, .unset, .unset, .unset, .unset, .unset, .unset] [(.ref y200)]))
        refine W.g_astore (pc1 := 173) (ls2 := #[.val (.int p0), .val (.int p1), .val (.int p2), .val (.int p3), .val (.int ct), .val (.int (Int32.ofNat na)), .val (.int (Int32.ofNat nb)), .val (.int ca0), .val (.int ca1), .val (.int ca2), .val (.int ((Jvm.Free.XT.ushr ct (10 : Int32)) &&& (3 : Int32))), .val (.int ((Jvm.Free.XT.ushr ct (12 : Int32)) &&& (3 : Int32))), .val (.int ((Jvm.Free.XT.ushr ct (14 : Int32)) &&& (3 : Int32))), .val (.int cb0), .val (.int cb1), .val (.int cb2), .val (.ref y200), .unset, .unset, .unset, .unset, .unset, .unset]) P200.q at_171 rfl rfl rfl ?_
        refine W.g_iload (pc1 := 175) P200.q at_173 rfl rfl ?_
        refine W.g_iload (pc1 := 177) P200.q at_175 rfl rfl ?_
        refine W.g_iload (pc1 := 179) P200.q at_177 rfl rfl ?_
        refine W.g_iload (pc1 := 181) P200.q at_179 rfl rfl ?_
        refine P200.callSW (pc1 := 184) (wd hw (k := 5) rfl) (wd hw (k := 6) rfl) (wd hw (k := 3) rfl) (wd hw (k := 7) rfl) (by decide) (W.MetW.pay (W := 0) (c_str l Z a0 hw wS hEL cb0 cb1 cb2 hcb0 hcb1 hcb2 nb hnb h200 (P200.extZ EZ all0) zc fm US) P200 hEL all0 (wd hw (k := 7) rfl) (wd hw (k := 3) rfl) (by decide) (by decide)) (argsL := [(.int cb0), (.int cb1), (.int cb2), (.int (Int32.ofNat nb))]) (st0 := []) (lenOf pd_CCCI_R_Ljava_lang_String rfl) rfl rfl (Nat.le_of_eq rfl) (by rw [hml]; rfl) (by decide) (by decide) (fun _ _ _ q => by obtain ⟨_, _, q2, _⟩ := q; exact q2.up P200.sz all0) at_181 rfl ?_
        intro v201 T201 h201 L201 q201 P201 R201
        obtain ⟨y201, rfl, f201, E201, S201⟩ := q201
        show W.Go p.tables e below _ (T201.setTop (mkF m 184 #[.val (.int p0), .val (.int p1), .val (.int p2), .val (.int p3), .val (.int ct), .val (.int (Int32.ofNat na)), .val (.int (Int32.ofNat nb)), .val (.int ca0), .val (.int ca1), .val (.int ca2), .val (.int ((Jvm.Free.XT.ushr ct (10 : Int32)) &&& (3 : Int32))), .val (.int ((Jvm.Free.XT.ushr ct (12 : Int32)) &&& (3 : Int32))), .val (.int ((Jvm.Free.XT.ushr ct (14 : Int32)) &&& (3 : Int32))), .val (.int cb0), .val (.int cb1), .val (.int cb2), .val (.ref y200), .unset, .unset, .unset, .unset, .unset, .unset] [(.ref y201)]))
        refine W.g_astore (pc1 := 186) (ls2 := #[.val (.int p0), .val (.int p1), .val (.int p2), .val (.int p3), .val (.int ct), .val (.int (Int32.ofNat na)), .val (.int (Int32.ofNat nb)), .val (.int ca0), .val (.int ca1), .val (.int ca2), .val (.int ((Jvm.Free.XT.ushr ct (10 : Int32)) &&& (3 : Int32))), .val (.int ((Jvm.Free.XT.ushr ct (12 : Int32)) &&& (3 : Int32))), .val (.int ((Jvm.Free.XT.ushr ct (14 : Int32)) &&& (3 : Int32))), .val (.int cb0), .val (.int cb1), .val (.int cb2), .val (.ref y200), .val (.ref y201), .unset, .unset, .unset, .unset, .unset]) P201.q at_184 rfl rfl rfl ?_
        refine W.g_iload (pc1 := 188) P201.q at_186 rfl rfl ?_
        refine W.g_iload (pc1 := 190) P201.q at_188 rfl rfl ?_
        refine W.g_iload (pc1 := 192) P201.q at_190 rfl rfl ?_
        refine W.g_iload (pc1 := 194) P201.q at_192 rfl rfl ?_
        refine P201.callS (pc1 := 197) (wd hw (k := 30) rfl) (wd hw (k := 31) rfl) (wd hw (k := 3) rfl) (wd hw (k := 32) rfl) (by decide) (W.MetN.pay (W := 0) (c_points l Z a0 hw ca0 ca1 ca2 hca0 hca1 hca2 na hna h201) P201 (wd hw (k := 32) rfl) (wd hw (k := 3) rfl) (by decide) (by decide)) (argsL := [(.int ca0), (.int ca1), (.int ca2), (.int (Int32.ofNat na))]) (st0 := []) (lenOf pd_CCCI_R_AI rfl) rfl rfl (Nat.le_of_eq rfl) (by rw [hml]; rfl) (by decide) (by decide) (fun _ _ _ q => by obtain ⟨_, _, _, q2, q3, _⟩ := q; exact ⟨q2.up P201.sz all0, CHr.keep (W.Ext.toKeep q3 []) sf0 P201.chv⟩) at_194 rfl ?_
        intro v202 T202 h202 L202 q202 P202
        obtain ⟨t202, kt202, rfl, f202, E202, V202⟩ := q202
        show W.Go p.tables e below _ (T202.setTop (mkF m 197 #[.val (.int p0), .val (.int p1), .val (.int p2), .val (.int p3), .val (.int ct), .val (.int (Int32.ofNat na)), .val (.int (Int32.ofNat nb)), .val (.int ca0), .val (.int ca1), .val (.int ca2), .val (.int ((Jvm.Free.XT.ushr ct (10 : Int32)) &&& (3 : Int32))), .val (.int ((Jvm.Free.XT.ushr ct (12 : Int32)) &&& (3 : Int32))), .val (.int ((Jvm.Free.XT.ushr ct (14 : Int32)) &&& (3 : Int32))), .val (.int cb0), .val (.int cb1), .val (.int cb2), .val (.ref y200), .val (.ref y201), .unset, .unset, .unset, .unset, .unset] [(.ref t202)]))
        refine W.g_astore (pc1 := 199) (ls2 := #[.val (.int p0), .val (.int p1), .val (.int p2), .val (.int p3), .val (.int ct), .val (.int (Int32.ofNat na)), .val (.int (Int32.ofNat nb)), .val (.int ca0), .val (.int ca1), .val (.int ca2), .val (.int ((Jvm.Free.XT.ushr ct (10 : Int32)) &&& (3 : Int32))), .val (.int ((Jvm.Free.XT.ushr ct (12 : Int32)) &&& (3 : Int32))), .val (.int ((Jvm.Free.XT.ushr ct (14 : Int32)) &&& (3 : Int32))), .val (.int cb0), .val (.int cb1), .val (.int cb2), .val (.ref y200), .val (.ref y201), .val (.ref t202), .unset, .unset, .unset, .unset]) P202.q at_197 rfl rfl rfl ?_
        refine W.g_iload (pc1 := 201) P202.q at_199 rfl rfl ?_
        refine W.g_iload (pc1 := 203) P202.q at_201 rfl rfl ?_
        refine W.g_iload (pc1 := 205) P202.q at_203 rfl rfl ?_
        refine W.g_iload (pc1 := 207) P202.q at_205 rfl rfl ?_
        refine P202.callS (pc1 := 210) (wd hw (k := 30) rfl) (wd hw (k := 31) rfl) (wd hw (k := 3) rfl) (wd hw (k := 32) rfl) (by decide) (W.MetN.pay (W := 0) (c_points l Z a0 hw cb0 cb1 cb2 hcb0 hcb1 hcb2 nb hnb h202) P202 (wd hw (k := 32) rfl) (wd hw (k := 3) rfl) (by decide) (by decide)) (argsL := [(.int cb0), (.int cb1), (.int cb2), (.int (Int32.ofNat nb))]) (st0 := []) (lenOf pd_CCCI_R_AI rfl) rfl rfl (Nat.le_of_eq rfl) (by rw [hml]; rfl) (by decide) (by decide) (fun _ _ _ q => by obtain ⟨_, _, _, q2, q3, _⟩ := q; exact ⟨q2.up P202.sz all0, CHr.keep (W.Ext.toKeep q3 []) sf0 P202.chv⟩) at_207 rfl ?_
        intro v203 T203 h203 L203 q203 P203
        obtain ⟨t203, kt203, rfl, f203, E203, V203⟩ := q203
        show W.Go p.tables e below _ (T203.setTop (mkF m 210 #[.val (.int p0), .val (.int p1), .val (.int p2), .val (.int p3), .val (.int ct), .val (.int (Int32.ofNat na)), .val (.int (Int32.ofNat nb)), .val (.int ca0), .val (.int ca1), .val (.int ca2), .val (.int ((Jvm.Free.XT.ushr ct (10 : Int32)) &&& (3 : Int32))), .val (.int ((Jvm.Free.XT.ushr ct (12 : Int32)) &&& (3 : Int32))), .val (.int ((Jvm.Free.XT.ushr ct (14 : Int32)) &&& (3 : Int32))), .val (.int cb0), .val (.int cb1), .val (.int cb2), .val (.ref y200), .val (.ref y201), .val (.ref t202), .unset, .unset, .unset, .unset] [(.ref t203)]))
        have Sa := ((S200.ext E201).ext E202).ext E203
        have Sb := (S201.ext E202).ext E203
        have Va := V202.ext E203
        have J26 : ∀ (T26 : State) (L26 : List Loc), W.Pos p l e room_1 s m #[.int p0, .int p1, .int p2, .int p3, .int ct] below meth c code Z ownEL [] h0 "com/example/broker/broker/Utf8OrderComparePinLaw" T201.vm T26 L26 20 96 h203 → W.Go p.tables e below (W.GW s Z ownEL h0 (Q1 h0.size) room_1) (T26.setTop (mkF m 261 #[.val (.int p0), .val (.int p1), .val (.int p2), .val (.int p3), .val (.int ct), .val (.int (Int32.ofNat na)), .val (.int (Int32.ofNat nb)), .val (.int ca0), .val (.int ca1), .val (.int ca2), .val (.int ((Jvm.Free.XT.ushr ct (10 : Int32)) &&& (3 : Int32))), .val (.int ((Jvm.Free.XT.ushr ct (12 : Int32)) &&& (3 : Int32))), .val (.int ((Jvm.Free.XT.ushr ct (14 : Int32)) &&& (3 : Int32))), .val (.int cb0), .val (.int cb1), .val (.int cb2), .val (.ref y200), .val (.ref y201), .val (.ref t202), .val (.ref t203), .val (.int (own_ch (own_pt na (own_f ca0 ca1 ca2) 0) (own_pt nb (own_f cb0 cb1 cb2) 0) (own_pt na (own_f ca0 ca1 ca2) (own_p1 na (own_f ca0 ca1 ca2))) (own_pt nb (own_f cb0 cb1 cb2) (own_p1 nb (own_f cb0 cb1 cb2))) (own_pt na (own_f ca0 ca1 ca2) (own_p2 na (own_f ca0 ca1 ca2))) (own_pt nb (own_f cb0 cb1 cb2) (own_p2 nb (own_f cb0 cb1 cb2))))), .unset, .unset] [])) := by
          intro T26 L26 P26
          refine W.g_aload (pc1 := 263) P26.q at_261 rfl rfl rfl ?_
          refine W.g_aload (pc1 := 265) P26.q at_263 rfl rfl rfl ?_
          refine P26.callS (pc1 := 268) (wd hw (k := 40) rfl) (wd hw (k := 41) rfl) (wd hw (k := 42) rfl) (wd hw (k := 43) rfl) (by decide) (W.MetN.pay (W := 0) (c_cmpS l Z a0 hw y200 y201 na nb (own_f ca0 ca1 ca2) (own_f cb0 cb1 cb2) hna hnb h203 Sa Sb (P26.extZ EZ all0) zc fm US) P26 (wd hw (k := 43) rfl) (wd hw (k := 42) rfl) (by decide) (by decide)) (argsL := [(.ref y200), (.ref y201)]) (st0 := []) (lenOf pd_Ljava_lang_StringLjava_lang_String_R_I rfl) rfl rfl (Nat.le_of_eq rfl) (by rw [hml]; rfl) (by decide) (by decide) (W.Pure.ok P26.chv) at_265 rfl ?_
          intro v204 T204 h204 L204 q204 P204
          obtain ⟨rfl, rfl, rfl⟩ := q204
          show W.Go p.tables e below _ (T204.setTop (mkF m 268 #[.val (.int p0), .val (.int p1), .val (.int p2), .val (.int p3), .val (.int ct), .val (.int (Int32.ofNat na)), .val (.int (Int32.ofNat nb)), .val (.int ca0), .val (.int ca1), .val (.int ca2), .val (.int ((Jvm.Free.XT.ushr ct (10 : Int32)) &&& (3 : Int32))), .val (.int ((Jvm.Free.XT.ushr ct (12 : Int32)) &&& (3 : Int32))), .val (.int ((Jvm.Free.XT.ushr ct (14 : Int32)) &&& (3 : Int32))), .val (.int cb0), .val (.int cb1), .val (.int cb2), .val (.ref y200), .val (.ref y201), .val (.ref t202), .val (.ref t203), .val (.int (own_ch (own_pt na (own_f ca0 ca1 ca2) 0) (own_pt nb (own_f cb0 cb1 cb2) 0) (own_pt na (own_f ca0 ca1 ca2) (own_p1 na (own_f ca0 ca1 ca2))) (own_pt nb (own_f cb0 cb1 cb2) (own_p1 nb (own_f cb0 cb1 cb2))) (own_pt na (own_f ca0 ca1 ca2) (own_p2 na (own_f ca0 ca1 ca2))) (own_pt nb (own_f cb0 cb1 cb2) (own_p2 nb (own_f cb0 cb1 cb2))))), .unset, .unset] [(.int (own_E na nb (own_f ca0 ca1 ca2) (own_f cb0 cb1 cb2) 3 0))]))
          have eE : own_E na nb (own_f ca0 ca1 ca2) (own_f cb0 cb1 cb2) 3 0 = (own_ch (own_pt na (own_f ca0 ca1 ca2) 0) (own_pt nb (own_f cb0 cb1 cb2) 0) (own_pt na (own_f ca0 ca1 ca2) (own_p1 na (own_f ca0 ca1 ca2))) (own_pt nb (own_f cb0 cb1 cb2) (own_p1 nb (own_f cb0 cb1 cb2))) (own_pt na (own_f ca0 ca1 ca2) (own_p2 na (own_f ca0 ca1 ca2))) (own_pt nb (own_f cb0 cb1 cb2) (own_p2 nb (own_f cb0 cb1 cb2)))) := own_chE.symm
          rw [eE]
          have h3 := own_ch3 (own_pt na (own_f ca0 ca1 ca2) 0) (own_pt nb (own_f cb0 cb1 cb2) 0) (own_pt na (own_f ca0 ca1 ca2) (own_p1 na (own_f ca0 ca1 ca2))) (own_pt nb (own_f cb0 cb1 cb2) (own_p1 nb (own_f cb0 cb1 cb2))) (own_pt na (own_f ca0 ca1 ca2) (own_p2 na (own_f ca0 ca1 ca2))) (own_pt nb (own_f cb0 cb1 cb2) (own_p2 nb (own_f cb0 cb1 cb2)))
          generalize (own_ch (own_pt na (own_f ca0 ca1 ca2) 0) (own_pt nb (own_f cb0 cb1 cb2) 0) (own_pt na (own_f ca0 ca1 ca2) (own_p1 na (own_f ca0 ca1 ca2))) (own_pt nb (own_f cb0 cb1 cb2) (own_p1 nb (own_f cb0 cb1 cb2))) (own_pt na (own_f ca0 ca1 ca2) (own_p2 na (own_f ca0 ca1 ca2))) (own_pt nb (own_f cb0 cb1 cb2) (own_p2 nb (own_f cb0 cb1 cb2)))) = rr at h3
          rcases h3 with rfl | rfl | rfl
          · show W.Go p.tables e below _ (T204.setTop (mkF m 268 #[.val (.int p0), .val (.int p1), .val (.int p2), .val (.int p3), .val (.int ct), .val (.int (Int32.ofNat na)), .val (.int (Int32.ofNat nb)), .val (.int ca0), .val (.int ca1), .val (.int ca2), .val (.int ((Jvm.Free.XT.ushr ct (10 : Int32)) &&& (3 : Int32))), .val (.int ((Jvm.Free.XT.ushr ct (12 : Int32)) &&& (3 : Int32))), .val (.int ((Jvm.Free.XT.ushr ct (14 : Int32)) &&& (3 : Int32))), .val (.int cb0), .val (.int cb1), .val (.int cb2), .val (.ref y200), .val (.ref y201), .val (.ref t202), .val (.ref t203), .val (.int (-1 : Int32)), .unset, .unset] [(.int (-1 : Int32))]))
            refine W.g_istore (pc1 := 270) (ls2 := #[.val (.int p0), .val (.int p1), .val (.int p2), .val (.int p3), .val (.int ct), .val (.int (Int32.ofNat na)), .val (.int (Int32.ofNat nb)), .val (.int ca0), .val (.int ca1), .val (.int ca2), .val (.int ((Jvm.Free.XT.ushr ct (10 : Int32)) &&& (3 : Int32))), .val (.int ((Jvm.Free.XT.ushr ct (12 : Int32)) &&& (3 : Int32))), .val (.int ((Jvm.Free.XT.ushr ct (14 : Int32)) &&& (3 : Int32))), .val (.int cb0), .val (.int cb1), .val (.int cb2), .val (.ref y200), .val (.ref y201), .val (.ref t202), .val (.ref t203), .val (.int (-1 : Int32)), .val (.int (-1 : Int32)), .unset]) P204.q at_268 rfl rfl ?_
            refine W.g_iload (pc1 := 272) P204.q at_270 rfl rfl ?_
            refine W.g_ifN (pc2 := 275) P204.q at_272 rfl (by decide) ?_
            refine W.g_iconst (pc1 := 276) (v := (-1 : Int32)) P204.q at_275 (by decide) rfl ?_
            refine W.g_goto (pc1 := 289) P204.q at_276 (by decide) rfl ?_
            refine W.g_istore (pc1 := 291) (ls2 := #[.val (.int p0), .val (.int p1), .val (.int p2), .val (.int p3), .val (.int ct), .val (.int (Int32.ofNat na)), .val (.int (Int32.ofNat nb)), .val (.int ca0), .val (.int ca1), .val (.int ca2), .val (.int ((Jvm.Free.XT.ushr ct (10 : Int32)) &&& (3 : Int32))), .val (.int ((Jvm.Free.XT.ushr ct (12 : Int32)) &&& (3 : Int32))), .val (.int ((Jvm.Free.XT.ushr ct (14 : Int32)) &&& (3 : Int32))), .val (.int cb0), .val (.int cb1), .val (.int cb2), .val (.ref y200), .val (.ref y201), .val (.ref t202), .val (.ref t203), .val (.int (-1 : Int32)), .val (.int (-1 : Int32)), .val (.int (-1 : Int32))]) P204.q at_289 rfl rfl ?_
            refine W.g_iload (pc1 := 293) P204.q at_291 rfl rfl ?_
            refine W.g_iload (pc1 := 295) P204.q at_293 rfl rfl ?_
            refine W.g_cmpN (pc2 := 298) P204.q at_295 rfl (by decide) ?_
            refine W.g_iconst (pc1 := 299) (v := (1 : Int32)) P204.q at_298 (by decide) rfl ?_
            refine W.g_goto (pc1 := 303) P204.q at_299 (by decide) rfl ?_
            exact P204.retVW hEL hlk hret (Or.inl rfl) at_303 (by decide) (by decide) ⟨rfl, P204.fr⟩
          · show W.Go p.tables e below _ (T204.setTop (mkF m 268 #[.val (.int p0), .val (.int p1), .val (.int p2), .val (.int p3), .val (.int ct), .val (.int (Int32.ofNat na)), .val (.int (Int32.ofNat nb)), .val (.int ca0), .val (.int ca1), .val (.int ca2), .val (.int ((Jvm.Free.XT.ushr ct (10 : Int32)) &&& (3 : Int32))), .val (.int ((Jvm.Free.XT.ushr ct (12 : Int32)) &&& (3 : Int32))), .val (.int ((Jvm.Free.XT.ushr ct (14 : Int32)) &&& (3 : Int32))), .val (.int cb0), .val (.int cb1), .val (.int cb2), .val (.ref y200), .val (.ref y201), .val (.ref t202), .val (.ref t203), .val (.int (0 : Int32)), .unset, .unset] [(.int (0 : Int32))]))
            refine W.g_istore (pc1 := 270) (ls2 := #[.val (.int p0), .val (.int p1), .val (.int p2), .val (.int p3), .val (.int ct), .val (.int (Int32.ofNat na)), .val (.int (Int32.ofNat nb)), .val (.int ca0), .val (.int ca1), .val (.int ca2), .val (.int ((Jvm.Free.XT.ushr ct (10 : Int32)) &&& (3 : Int32))), .val (.int ((Jvm.Free.XT.ushr ct (12 : Int32)) &&& (3 : Int32))), .val (.int ((Jvm.Free.XT.ushr ct (14 : Int32)) &&& (3 : Int32))), .val (.int cb0), .val (.int cb1), .val (.int cb2), .val (.ref y200), .val (.ref y201), .val (.ref t202), .val (.ref t203), .val (.int (0 : Int32)), .val (.int (0 : Int32)), .unset]) P204.q at_268 rfl rfl ?_
            refine W.g_iload (pc1 := 272) P204.q at_270 rfl rfl ?_
            refine W.g_ifY (pc1 := 279) P204.q at_272 (by decide) rfl (by decide) ?_
            refine W.g_iload (pc1 := 281) P204.q at_279 rfl rfl ?_
            refine W.g_ifY (pc1 := 288) P204.q at_281 (by decide) rfl (by decide) ?_
            refine W.g_iconst (pc1 := 289) (v := (0 : Int32)) P204.q at_288 (by decide) rfl ?_
            refine W.g_istore (pc1 := 291) (ls2 := #[.val (.int p0), .val (.int p1), .val (.int p2), .val (.int p3), .val (.int ct), .val (.int (Int32.ofNat na)), .val (.int (Int32.ofNat nb)), .val (.int ca0), .val (.int ca1), .val (.int ca2), .val (.int ((Jvm.Free.XT.ushr ct (10 : Int32)) &&& (3 : Int32))), .val (.int ((Jvm.Free.XT.ushr ct (12 : Int32)) &&& (3 : Int32))), .val (.int ((Jvm.Free.XT.ushr ct (14 : Int32)) &&& (3 : Int32))), .val (.int cb0), .val (.int cb1), .val (.int cb2), .val (.ref y200), .val (.ref y201), .val (.ref t202), .val (.ref t203), .val (.int (0 : Int32)), .val (.int (0 : Int32)), .val (.int (0 : Int32))]) P204.q at_289 rfl rfl ?_
            refine W.g_iload (pc1 := 293) P204.q at_291 rfl rfl ?_
            refine W.g_iload (pc1 := 295) P204.q at_293 rfl rfl ?_
            refine W.g_cmpN (pc2 := 298) P204.q at_295 rfl (by decide) ?_
            refine W.g_iconst (pc1 := 299) (v := (1 : Int32)) P204.q at_298 (by decide) rfl ?_
            refine W.g_goto (pc1 := 303) P204.q at_299 (by decide) rfl ?_
            exact P204.retVW hEL hlk hret (Or.inl rfl) at_303 (by decide) (by decide) ⟨rfl, P204.fr⟩
          · show W.Go p.tables e below _ (T204.setTop (mkF m 268 #[.val (.int p0), .val (.int p1), .val (.int p2), .val (.int p3), .val (.int ct), .val (.int (Int32.ofNat na)), .val (.int (Int32.ofNat nb)), .val (.int ca0), .val (.int ca1), .val (.int ca2), .val (.int ((Jvm.Free.XT.ushr ct (10 : Int32)) &&& (3 : Int32))), .val (.int ((Jvm.Free.XT.ushr ct (12 : Int32)) &&& (3 : Int32))), .val (.int ((Jvm.Free.XT.ushr ct (14 : Int32)) &&& (3 : Int32))), .val (.int cb0), .val (.int cb1), .val (.int cb2), .val (.ref y200), .val (.ref y201), .val (.ref t202), .val (.ref t203), .val (.int (1 : Int32)), .unset, .unset] [(.int (1 : Int32))]))
            refine W.g_istore (pc1 := 270) (ls2 := #[.val (.int p0), .val (.int p1), .val (.int p2), .val (.int p3), .val (.int ct), .val (.int (Int32.ofNat na)), .val (.int (Int32.ofNat nb)), .val (.int ca0), .val (.int ca1), .val (.int ca2), .val (.int ((Jvm.Free.XT.ushr ct (10 : Int32)) &&& (3 : Int32))), .val (.int ((Jvm.Free.XT.ushr ct (12 : Int32)) &&& (3 : Int32))), .val (.int ((Jvm.Free.XT.ushr ct (14 : Int32)) &&& (3 : Int32))), .val (.int cb0), .val (.int cb1), .val (.int cb2), .val (.ref y200), .val (.ref y201), .val (.ref t202), .val (.ref t203), .val (.int (1 : Int32)), .val (.int (1 : Int32)), .unset]) P204.q at_268 rfl rfl ?_
            refine W.g_iload (pc1 := 272) P204.q at_270 rfl rfl ?_
            refine W.g_ifY (pc1 := 279) P204.q at_272 (by decide) rfl (by decide) ?_
            refine W.g_iload (pc1 := 281) P204.q at_279 rfl rfl ?_
            refine W.g_ifN (pc2 := 284) P204.q at_281 rfl (by decide) ?_
            refine W.g_iconst (pc1 := 285) (v := (1 : Int32)) P204.q at_284 (by decide) rfl ?_
            refine W.g_goto (pc1 := 289) P204.q at_285 (by decide) rfl ?_
            refine W.g_istore (pc1 := 291) (ls2 := #[.val (.int p0), .val (.int p1), .val (.int p2), .val (.int p3), .val (.int ct), .val (.int (Int32.ofNat na)), .val (.int (Int32.ofNat nb)), .val (.int ca0), .val (.int ca1), .val (.int ca2), .val (.int ((Jvm.Free.XT.ushr ct (10 : Int32)) &&& (3 : Int32))), .val (.int ((Jvm.Free.XT.ushr ct (12 : Int32)) &&& (3 : Int32))), .val (.int ((Jvm.Free.XT.ushr ct (14 : Int32)) &&& (3 : Int32))), .val (.int cb0), .val (.int cb1), .val (.int cb2), .val (.ref y200), .val (.ref y201), .val (.ref t202), .val (.ref t203), .val (.int (1 : Int32)), .val (.int (1 : Int32)), .val (.int (1 : Int32))]) P204.q at_289 rfl rfl ?_
            refine W.g_iload (pc1 := 293) P204.q at_291 rfl rfl ?_
            refine W.g_iload (pc1 := 295) P204.q at_293 rfl rfl ?_
            refine W.g_cmpN (pc2 := 298) P204.q at_295 rfl (by decide) ?_
            refine W.g_iconst (pc1 := 299) (v := (1 : Int32)) P204.q at_298 (by decide) rfl ?_
            refine W.g_goto (pc1 := 303) P204.q at_299 (by decide) rfl ?_
            exact P204.retVW hEL hlk hret (Or.inl rfl) at_303 (by decide) (by decide) ⟨rfl, P204.fr⟩
        refine W.g_astore (pc1 := 212) (ls2 := #[.val (.int p0), .val (.int p1), .val (.int p2), .val (.int p3), .val (.int ct), .val (.int (Int32.ofNat na)), .val (.int (Int32.ofNat nb)), .val (.int ca0), .val (.int ca1), .val (.int ca2), .val (.int ((Jvm.Free.XT.ushr ct (10 : Int32)) &&& (3 : Int32))), .val (.int ((Jvm.Free.XT.ushr ct (12 : Int32)) &&& (3 : Int32))), .val (.int ((Jvm.Free.XT.ushr ct (14 : Int32)) &&& (3 : Int32))), .val (.int cb0), .val (.int cb1), .val (.int cb2), .val (.ref y200), .val (.ref y201), .val (.ref t202), .val (.ref t203), .unset, .unset, .unset]) P203.q at_210 rfl rfl rfl ?_
        refine W.g_aload (pc1 := 214) P203.q at_212 rfl rfl rfl ?_
        refine W.g_iconst (pc1 := 215) (v := (0 : Int32)) P203.q at_214 (by decide) rfl ?_
        refine P203.ldI (pc1 := 216) Va (by decide) (by decide) rfl at_215 rfl ?_
        refine W.g_aload (pc1 := 218) P203.q at_216 rfl rfl rfl ?_
        refine W.g_iconst (pc1 := 219) (v := (0 : Int32)) P203.q at_218 (by decide) rfl ?_
        refine P203.ldI (pc1 := 220) V203 (by decide) (by decide) rfl at_219 rfl ?_
        refine P203.callS (pc1 := 223) (wd hw (k := 37) rfl) (wd hw (k := 38) rfl) (wd hw (k := 3) rfl) (wd hw (k := 39) rfl) (by decide) (W.MetN.pay (W := 0) (c_cmp l Z a0 hw _ _ h203) P203 (wd hw (k := 39) rfl) (wd hw (k := 3) rfl) (by decide) (by decide)) (argsL := [(.int (own_pt na (own_f ca0 ca1 ca2) 0)), (.int (own_pt nb (own_f cb0 cb1 cb2) 0))]) (st0 := []) (lenOf pd_II_R_I rfl) rfl rfl (Nat.le_of_eq rfl) (by rw [hml]; rfl) (by decide) (by decide) (W.Pure.ok P203.chv) at_220 rfl ?_
        intro v205 T205 h205 L205 q205 P205
        obtain ⟨rfl, rfl, rfl⟩ := q205
        show W.Go p.tables e below _ (T205.setTop (mkF m 223 #[.val (.int p0), .val (.int p1), .val (.int p2), .val (.int p3), .val (.int ct), .val (.int (Int32.ofNat na)), .val (.int (Int32.ofNat nb)), .val (.int ca0), .val (.int ca1), .val (.int ca2), .val (.int ((Jvm.Free.XT.ushr ct (10 : Int32)) &&& (3 : Int32))), .val (.int ((Jvm.Free.XT.ushr ct (12 : Int32)) &&& (3 : Int32))), .val (.int ((Jvm.Free.XT.ushr ct (14 : Int32)) &&& (3 : Int32))), .val (.int cb0), .val (.int cb1), .val (.int cb2), .val (.ref y200), .val (.ref y201), .val (.ref t202), .val (.ref t203), .unset, .unset, .unset] [(.int (own_cmp (own_pt na (own_f ca0 ca1 ca2) 0) (own_pt nb (own_f cb0 cb1 cb2) 0)))]))
        refine W.g_istore (pc1 := 225) (ls2 := #[.val (.int p0), .val (.int p1), .val (.int p2), .val (.int p3), .val (.int ct), .val (.int (Int32.ofNat na)), .val (.int (Int32.ofNat nb)), .val (.int ca0), .val (.int ca1), .val (.int ca2), .val (.int ((Jvm.Free.XT.ushr ct (10 : Int32)) &&& (3 : Int32))), .val (.int ((Jvm.Free.XT.ushr ct (12 : Int32)) &&& (3 : Int32))), .val (.int ((Jvm.Free.XT.ushr ct (14 : Int32)) &&& (3 : Int32))), .val (.int cb0), .val (.int cb1), .val (.int cb2), .val (.ref y200), .val (.ref y201), .val (.ref t202), .val (.ref t203), .val (.int (own_cmp (own_pt na (own_f ca0 ca1 ca2) 0) (own_pt nb (own_f cb0 cb1 cb2) 0))), .unset, .unset]) P205.q at_223 rfl rfl ?_
        refine W.g_iload (pc1 := 227) P205.q at_225 rfl rfl ?_
        refine W.g_if (pc1 := 243) (pc2 := 230) P205.q at_227 (by decide) rfl rfl (fun (e0 : ¬ (own_cmp (own_pt na (own_f ca0 ca1 ca2) 0) (own_pt nb (own_f cb0 cb1 cb2) 0)) = 0) => ?_) (fun (e0 : ¬ (¬ (own_cmp (own_pt na (own_f ca0 ca1 ca2) 0) (own_pt nb (own_f cb0 cb1 cb2) 0)) = 0)) => ?_)
        · refine W.g_iload (pc1 := 245) P205.q at_243 rfl rfl ?_
          refine W.g_ifY (pc1 := 261) P205.q at_245 (by decide) rfl e0 ?_
          have e : (own_ch (own_pt na (own_f ca0 ca1 ca2) 0) (own_pt nb (own_f cb0 cb1 cb2) 0) (own_pt na (own_f ca0 ca1 ca2) (own_p1 na (own_f ca0 ca1 ca2))) (own_pt nb (own_f cb0 cb1 cb2) (own_p1 nb (own_f cb0 cb1 cb2))) (own_pt na (own_f ca0 ca1 ca2) (own_p2 na (own_f ca0 ca1 ca2))) (own_pt nb (own_f cb0 cb1 cb2) (own_p2 nb (own_f cb0 cb1 cb2)))) = (own_cmp (own_pt na (own_f ca0 ca1 ca2) 0) (own_pt nb (own_f cb0 cb1 cb2) 0)) := if_pos e0
          rw [e] at J26
          exact J26 _ _ P205
        · refine W.g_aload (pc1 := 232) P205.q at_230 rfl rfl rfl ?_
          refine W.g_iconst (pc1 := 233) (v := (1 : Int32)) P205.q at_232 (by decide) rfl ?_
          refine P205.ldI (pc1 := 234) Va (by decide) (by decide) rfl at_233 rfl ?_
          refine W.g_aload (pc1 := 236) P205.q at_234 rfl rfl rfl ?_
          refine W.g_iconst (pc1 := 237) (v := (1 : Int32)) P205.q at_236 (by decide) rfl ?_
          refine P205.ldI (pc1 := 238) V203 (by decide) (by decide) rfl at_237 rfl ?_
          refine P205.callS (pc1 := 241) (wd hw (k := 37) rfl) (wd hw (k := 38) rfl) (wd hw (k := 3) rfl) (wd hw (k := 39) rfl) (by decide) (W.MetN.pay (W := 0) (c_cmp l Z a0 hw _ _ h203) P205 (wd hw (k := 39) rfl) (wd hw (k := 3) rfl) (by decide) (by decide)) (argsL := [(.int (own_pt na (own_f ca0 ca1 ca2) (own_p1 na (own_f ca0 ca1 ca2)))), (.int (own_pt nb (own_f cb0 cb1 cb2) (own_p1 nb (own_f cb0 cb1 cb2))))]) (st0 := []) (lenOf pd_II_R_I rfl) rfl rfl (Nat.le_of_eq rfl) (by rw [hml]; rfl) (by decide) (by decide) (W.Pure.ok P205.chv) at_238 rfl ?_
          intro v206 T206 h206 L206 q206 P206
          obtain ⟨rfl, rfl, rfl⟩ := q206
          show W.Go p.tables e below _ (T206.setTop (mkF m 241 #[.val (.int p0), .val (.int p1), .val (.int p2), .val (.int p3), .val (.int ct), .val (.int (Int32.ofNat na)), .val (.int (Int32.ofNat nb)), .val (.int ca0), .val (.int ca1), .val (.int ca2), .val (.int ((Jvm.Free.XT.ushr ct (10 : Int32)) &&& (3 : Int32))), .val (.int ((Jvm.Free.XT.ushr ct (12 : Int32)) &&& (3 : Int32))), .val (.int ((Jvm.Free.XT.ushr ct (14 : Int32)) &&& (3 : Int32))), .val (.int cb0), .val (.int cb1), .val (.int cb2), .val (.ref y200), .val (.ref y201), .val (.ref t202), .val (.ref t203), .val (.int (own_cmp (own_pt na (own_f ca0 ca1 ca2) 0) (own_pt nb (own_f cb0 cb1 cb2) 0))), .unset, .unset] [(.int (own_cmp (own_pt na (own_f ca0 ca1 ca2) (own_p1 na (own_f ca0 ca1 ca2))) (own_pt nb (own_f cb0 cb1 cb2) (own_p1 nb (own_f cb0 cb1 cb2)))))]))
          refine W.g_istore (pc1 := 243) (ls2 := #[.val (.int p0), .val (.int p1), .val (.int p2), .val (.int p3), .val (.int ct), .val (.int (Int32.ofNat na)), .val (.int (Int32.ofNat nb)), .val (.int ca0), .val (.int ca1), .val (.int ca2), .val (.int ((Jvm.Free.XT.ushr ct (10 : Int32)) &&& (3 : Int32))), .val (.int ((Jvm.Free.XT.ushr ct (12 : Int32)) &&& (3 : Int32))), .val (.int ((Jvm.Free.XT.ushr ct (14 : Int32)) &&& (3 : Int32))), .val (.int cb0), .val (.int cb1), .val (.int cb2), .val (.ref y200), .val (.ref y201), .val (.ref t202), .val (.ref t203), .val (.int (own_cmp (own_pt na (own_f ca0 ca1 ca2) (own_p1 na (own_f ca0 ca1 ca2))) (own_pt nb (own_f cb0 cb1 cb2) (own_p1 nb (own_f cb0 cb1 cb2))))), .unset, .unset]) P206.q at_241 rfl rfl ?_
          refine W.g_iload (pc1 := 245) P206.q at_243 rfl rfl ?_
          refine W.g_if (pc1 := 261) (pc2 := 248) P206.q at_245 (by decide) rfl rfl (fun (e1 : ¬ (own_cmp (own_pt na (own_f ca0 ca1 ca2) (own_p1 na (own_f ca0 ca1 ca2))) (own_pt nb (own_f cb0 cb1 cb2) (own_p1 nb (own_f cb0 cb1 cb2)))) = 0) => ?_) (fun (e1 : ¬ (¬ (own_cmp (own_pt na (own_f ca0 ca1 ca2) (own_p1 na (own_f ca0 ca1 ca2))) (own_pt nb (own_f cb0 cb1 cb2) (own_p1 nb (own_f cb0 cb1 cb2)))) = 0)) => ?_)
          · have e : (own_ch (own_pt na (own_f ca0 ca1 ca2) 0) (own_pt nb (own_f cb0 cb1 cb2) 0) (own_pt na (own_f ca0 ca1 ca2) (own_p1 na (own_f ca0 ca1 ca2))) (own_pt nb (own_f cb0 cb1 cb2) (own_p1 nb (own_f cb0 cb1 cb2))) (own_pt na (own_f ca0 ca1 ca2) (own_p2 na (own_f ca0 ca1 ca2))) (own_pt nb (own_f cb0 cb1 cb2) (own_p2 nb (own_f cb0 cb1 cb2)))) = (own_cmp (own_pt na (own_f ca0 ca1 ca2) (own_p1 na (own_f ca0 ca1 ca2))) (own_pt nb (own_f cb0 cb1 cb2) (own_p1 nb (own_f cb0 cb1 cb2)))) := (if_neg e0).trans (if_pos e1)
            rw [e] at J26
            exact J26 _ _ P206
          · refine W.g_aload (pc1 := 250) P206.q at_248 rfl rfl rfl ?_
            refine W.g_iconst (pc1 := 251) (v := (2 : Int32)) P206.q at_250 (by decide) rfl ?_
            refine P206.ldI (pc1 := 252) Va (by decide) (by decide) rfl at_251 rfl ?_
            refine W.g_aload (pc1 := 254) P206.q at_252 rfl rfl rfl ?_
            refine W.g_iconst (pc1 := 255) (v := (2 : Int32)) P206.q at_254 (by decide) rfl ?_
            refine P206.ldI (pc1 := 256) V203 (by decide) (by decide) rfl at_255 rfl ?_
            refine P206.callS (pc1 := 259) (wd hw (k := 37) rfl) (wd hw (k := 38) rfl) (wd hw (k := 3) rfl) (wd hw (k := 39) rfl) (by decide) (W.MetN.pay (W := 0) (c_cmp l Z a0 hw _ _ h203) P206 (wd hw (k := 39) rfl) (wd hw (k := 3) rfl) (by decide) (by decide)) (argsL := [(.int (own_pt na (own_f ca0 ca1 ca2) (own_p2 na (own_f ca0 ca1 ca2)))), (.int (own_pt nb (own_f cb0 cb1 cb2) (own_p2 nb (own_f cb0 cb1 cb2))))]) (st0 := []) (lenOf pd_II_R_I rfl) rfl rfl (Nat.le_of_eq rfl) (by rw [hml]; rfl) (by decide) (by decide) (W.Pure.ok P206.chv) at_256 rfl ?_
            intro v207 T207 h207 L207 q207 P207
            obtain ⟨rfl, rfl, rfl⟩ := q207
            show W.Go p.tables e below _ (T207.setTop (mkF m 259 #[.val (.int p0), .val (.int p1), .val (.int p2), .val (.int p3), .val (.int ct), .val (.int (Int32.ofNat na)), .val (.int (Int32.ofNat nb)), .val (.int ca0), .val (.int ca1), .val (.int ca2), .val (.int ((Jvm.Free.XT.ushr ct (10 : Int32)) &&& (3 : Int32))), .val (.int ((Jvm.Free.XT.ushr ct (12 : Int32)) &&& (3 : Int32))), .val (.int ((Jvm.Free.XT.ushr ct (14 : Int32)) &&& (3 : Int32))), .val (.int cb0), .val (.int cb1), .val (.int cb2), .val (.ref y200), .val (.ref y201), .val (.ref t202), .val (.ref t203), .val (.int (own_cmp (own_pt na (own_f ca0 ca1 ca2) (own_p1 na (own_f ca0 ca1 ca2))) (own_pt nb (own_f cb0 cb1 cb2) (own_p1 nb (own_f cb0 cb1 cb2))))), .unset, .unset] [(.int (own_cmp (own_pt na (own_f ca0 ca1 ca2) (own_p2 na (own_f ca0 ca1 ca2))) (own_pt nb (own_f cb0 cb1 cb2) (own_p2 nb (own_f cb0 cb1 cb2)))))]))
            refine W.g_istore (pc1 := 261) (ls2 := #[.val (.int p0), .val (.int p1), .val (.int p2), .val (.int p3), .val (.int ct), .val (.int (Int32.ofNat na)), .val (.int (Int32.ofNat nb)), .val (.int ca0), .val (.int ca1), .val (.int ca2), .val (.int ((Jvm.Free.XT.ushr ct (10 : Int32)) &&& (3 : Int32))), .val (.int ((Jvm.Free.XT.ushr ct (12 : Int32)) &&& (3 : Int32))), .val (.int ((Jvm.Free.XT.ushr ct (14 : Int32)) &&& (3 : Int32))), .val (.int cb0), .val (.int cb1), .val (.int cb2), .val (.ref y200), .val (.ref y201), .val (.ref t202), .val (.ref t203), .val (.int (own_cmp (own_pt na (own_f ca0 ca1 ca2) (own_p2 na (own_f ca0 ca1 ca2))) (own_pt nb (own_f cb0 cb1 cb2) (own_p2 nb (own_f cb0 cb1 cb2))))), .unset, .unset]) P207.q at_259 rfl rfl ?_
            have e : (own_ch (own_pt na (own_f ca0 ca1 ca2) 0) (own_pt nb (own_f cb0 cb1 cb2) 0) (own_pt na (own_f ca0 ca1 ca2) (own_p1 na (own_f ca0 ca1 ca2))) (own_pt nb (own_f cb0 cb1 cb2) (own_p1 nb (own_f cb0 cb1 cb2))) (own_pt na (own_f ca0 ca1 ca2) (own_p2 na (own_f ca0 ca1 ca2))) (own_pt nb (own_f cb0 cb1 cb2) (own_p2 nb (own_f cb0 cb1 cb2)))) = (own_cmp (own_pt na (own_f ca0 ca1 ca2) (own_p2 na (own_f ca0 ca1 ca2))) (own_pt nb (own_f cb0 cb1 cb2) (own_p2 nb (own_f cb0 cb1 cb2)))) := (if_neg e0).trans (if_neg e1)
            rw [e] at J26
            exact J26 _ _ P207
      refine W.g_cmp (pc1 := 148) (pc2 := 143) PJ1.q at_140 (by decide) rfl rfl (fun (hm2 : ¬ ((Jvm.Free.XT.ushr ct (14 : Int32)) &&& (3 : Int32)) = (3 : Int32)) => ?_) (fun (hm2 : ¬ (¬ ((Jvm.Free.XT.ushr ct (14 : Int32)) &&& (3 : Int32)) = (3 : Int32))) => ?_)
      · refine W.g_iloadN (pc1 := 149) PJ1.q at_148 rfl rfl ?_
        refine PJ1.ldcI (pc1 := 151) (wd hw (k := 0) rfl) at_149 rfl ?_
        refine W.g_iand (pc1 := 152) PJ1.q at_151 rfl ?_
        refine W.g_i2c (pc1 := 153) PJ1.q at_152 rfl ?_
        refine W.g_iload (pc1 := 155) PJ1.q at_153 rfl rfl ?_
        refine PJ1.callS (pc1 := 158) (wd hw (k := 1) rfl) (wd hw (k := 2) rfl) (wd hw (k := 3) rfl) (wd hw (k := 4) rfl) (by decide) (W.MetN.pay (W := 0) (c_shape l Z a0 hw _ _ (own_chn _) h0) PJ1 (wd hw (k := 4) rfl) (wd hw (k := 3) rfl) (by decide) (by decide)) (argsL := [(.int (p3 &&& (65535 : Int32)).toUInt32.toUInt16.toUInt32.toInt32), (.int ((Jvm.Free.XT.ushr ct (14 : Int32)) &&& (3 : Int32)))]) (st0 := []) (lenOf pd_CI_R_C rfl) rfl rfl (Nat.le_of_eq rfl) (by rw [hml]; rfl) (by decide) (by decide) (QCh.ok PJ1.chv) at_155 rfl ?_
        intro v208 T208 h208 L208 q208 P208
        obtain ⟨rfl, rfl, rr2, rfl, hrr2⟩ := q208
        show W.Go p.tables e below _ (T208.setTop (mkF m 158 #[.val (.int p0), .val (.int p1), .val (.int p2), .val (.int p3), .val (.int ct), .val (.int (Int32.ofNat na)), .val (.int (Int32.ofNat nb)), .val (.int ca0), .val (.int ca1), .val (.int ca2), .val (.int ((Jvm.Free.XT.ushr ct (10 : Int32)) &&& (3 : Int32))), .val (.int ((Jvm.Free.XT.ushr ct (12 : Int32)) &&& (3 : Int32))), .val (.int ((Jvm.Free.XT.ushr ct (14 : Int32)) &&& (3 : Int32))), .val (.int cb0), .val (.int cb1), .unset, .unset, .unset, .unset, .unset, .unset, .unset, .unset] [(.int rr2)]))
        exact J2 _ _ _ P208 hrr2
      · refine W.g_iload (pc1 := 145) PJ1.q at_143 rfl rfl ?_
        refine W.g_goto (pc1 := 158) PJ1.q at_145 (by decide) rfl ?_
        exact J2 _ _ _ PJ1 hca2
    refine W.g_cmp (pc1 := 125) (pc2 := 120) PJ0.q at_117 (by decide) rfl rfl (fun (hm1 : ¬ ((Jvm.Free.XT.ushr ct (12 : Int32)) &&& (3 : Int32)) = (3 : Int32)) => ?_) (fun (hm1 : ¬ (¬ ((Jvm.Free.XT.ushr ct (12 : Int32)) &&& (3 : Int32)) = (3 : Int32))) => ?_)
    · refine W.g_iloadN (pc1 := 126) PJ0.q at_125 rfl rfl ?_
      refine W.g_bipush (pc1 := 128) (v := (16 : Int32)) PJ0.q at_126 (by decide) rfl ?_
      refine W.g_iushr (pc1 := 129) PJ0.q at_128 rfl ?_
      refine W.g_i2c (pc1 := 130) PJ0.q at_129 rfl ?_
      refine W.g_iload (pc1 := 132) PJ0.q at_130 rfl rfl ?_
      refine PJ0.callS (pc1 := 135) (wd hw (k := 1) rfl) (wd hw (k := 2) rfl) (wd hw (k := 3) rfl) (wd hw (k := 4) rfl) (by decide) (W.MetN.pay (W := 0) (c_shape l Z a0 hw _ _ (own_chn _) h0) PJ0 (wd hw (k := 4) rfl) (wd hw (k := 3) rfl) (by decide) (by decide)) (argsL := [(.int (Jvm.Free.XT.ushr p2 (16 : Int32)).toUInt32.toUInt16.toUInt32.toInt32), (.int ((Jvm.Free.XT.ushr ct (12 : Int32)) &&& (3 : Int32)))]) (st0 := []) (lenOf pd_CI_R_C rfl) rfl rfl (Nat.le_of_eq rfl) (by rw [hml]; rfl) (by decide) (by decide) (QCh.ok PJ0.chv) at_132 rfl ?_
      intro v209 T209 h209 L209 q209 P209
      obtain ⟨rfl, rfl, rr1, rfl, hrr1⟩ := q209
      show W.Go p.tables e below _ (T209.setTop (mkF m 135 #[.val (.int p0), .val (.int p1), .val (.int p2), .val (.int p3), .val (.int ct), .val (.int (Int32.ofNat na)), .val (.int (Int32.ofNat nb)), .val (.int ca0), .val (.int ca1), .val (.int ca2), .val (.int ((Jvm.Free.XT.ushr ct (10 : Int32)) &&& (3 : Int32))), .val (.int ((Jvm.Free.XT.ushr ct (12 : Int32)) &&& (3 : Int32))), .val (.int ((Jvm.Free.XT.ushr ct (14 : Int32)) &&& (3 : Int32))), .val (.int cb0), .unset, .unset, .unset, .unset, .unset, .unset, .unset, .unset, .unset] [(.int rr1)]))
      exact J1 _ _ _ P209 hrr1
    · refine W.g_iload (pc1 := 122) PJ0.q at_120 rfl rfl ?_
      refine W.g_goto (pc1 := 135) PJ0.q at_122 (by decide) rfl ?_
      exact J1 _ _ _ PJ0 hca1
  refine W.g_cmp (pc1 := 102) (pc2 := 97) P199.q at_94 (by decide) rfl rfl (fun (hm0 : ¬ ((Jvm.Free.XT.ushr ct (10 : Int32)) &&& (3 : Int32)) = (3 : Int32)) => ?_) (fun (hm0 : ¬ (¬ ((Jvm.Free.XT.ushr ct (10 : Int32)) &&& (3 : Int32)) = (3 : Int32))) => ?_)
  · refine W.g_iloadN (pc1 := 103) P199.q at_102 rfl rfl ?_
    refine P199.ldcI (pc1 := 105) (wd hw (k := 0) rfl) at_103 rfl ?_
    refine W.g_iand (pc1 := 106) P199.q at_105 rfl ?_
    refine W.g_i2c (pc1 := 107) P199.q at_106 rfl ?_
    refine W.g_iload (pc1 := 109) P199.q at_107 rfl rfl ?_
    refine P199.callS (pc1 := 112) (wd hw (k := 1) rfl) (wd hw (k := 2) rfl) (wd hw (k := 3) rfl) (wd hw (k := 4) rfl) (by decide) (W.MetN.pay (W := 0) (c_shape l Z a0 hw _ _ (own_chn _) h0) P199 (wd hw (k := 4) rfl) (wd hw (k := 3) rfl) (by decide) (by decide)) (argsL := [(.int (p2 &&& (65535 : Int32)).toUInt32.toUInt16.toUInt32.toInt32), (.int ((Jvm.Free.XT.ushr ct (10 : Int32)) &&& (3 : Int32)))]) (st0 := []) (lenOf pd_CI_R_C rfl) rfl rfl (Nat.le_of_eq rfl) (by rw [hml]; rfl) (by decide) (by decide) (QCh.ok P199.chv) at_109 rfl ?_
    intro v210 T210 h210 L210 q210 P210
    obtain ⟨rfl, rfl, rr0, rfl, hrr0⟩ := q210
    show W.Go p.tables e below _ (T210.setTop (mkF m 112 #[.val (.int p0), .val (.int p1), .val (.int p2), .val (.int p3), .val (.int ct), .val (.int (Int32.ofNat na)), .val (.int (Int32.ofNat nb)), .val (.int ca0), .val (.int ca1), .val (.int ca2), .val (.int ((Jvm.Free.XT.ushr ct (10 : Int32)) &&& (3 : Int32))), .val (.int ((Jvm.Free.XT.ushr ct (12 : Int32)) &&& (3 : Int32))), .val (.int ((Jvm.Free.XT.ushr ct (14 : Int32)) &&& (3 : Int32))), .unset, .unset, .unset, .unset, .unset, .unset, .unset, .unset, .unset, .unset] [(.int rr0)]))
    exact J0 _ _ _ P210 hrr0
  · refine W.g_iload (pc1 := 99) P199.q at_97 rfl rfl ?_
    refine W.g_goto (pc1 := 112) P199.q at_99 (by decide) rfl ?_
    exact J0 _ _ _ P199 hca0
set_option maxRecDepth 65536 in
set_option maxHeartbeats 40000000 in
theorem comes_1 {Post : Tables → Env → Array Value → State → Outcome → State → Prop} (hpost : ∀ tb e args s v u, (limb_1_1.after args s (.returned v) u = true ∧ limb_1_2.after args s (.returned v) u = true ∧ True) → ReturnedEndW s (.returned v) u (Jvm.fieldLocs frame_1_writes args s ++ Jvm.arrayLocs frame_1_arrays args s ++ Jvm.staticLocs frame_1_statics s) 40 1216 → Post tb e args s (.returned v) u) :
    ArmFor flags0 classFile x code maxLocals ret World_1 tables_1 room_1 Calls_1 rest_1 Pre_1 Post := by
  intro l hfl _ _ p e ha hc hk s m args below hf hA hF happ hP
  obtain ⟨hcalls, hrest, hpre⟩ := hP
  obtain ⟨-, -, -, hnamed, -, -, -, hat⟩ := (Spec.applies_iff hf).mp happ
  obtain ⟨hg, hn⟩ := and_e (Cond.before_iff.mp (show (Jvm.Cond.and given_1 narrow_1).before args s = true from hpre))
  obtain ⟨hcnt, hg0⟩ := and_e hg
  obtain ⟨ga0, hg1⟩ := and_e hg0
  obtain ⟨ga1, hg2⟩ := and_e hg1
  obtain ⟨ga2, hg3⟩ := and_e hg2
  obtain ⟨ga3, hg4⟩ := and_e hg3
  have ga4 := hg4
  obtain ⟨w0, w1, w2, w3, w4, rfl⟩ : ∃ w0 w1 w2 w3 w4 : Value, args = #[w0, w1, w2, w3, w4] := by
    have hs : args.size = 5 := by simpa [Cond.value, given_1] using hcnt
    obtain ⟨L⟩ := args
    match L, hs with
    | [w0, w1, w2, w3, w4], _ => exact ⟨w0, w1, w2, w3, w4, rfl⟩
  have hw := fun d (hd : d ∈ tables_1) => atoms_spec (ws := Jvm.Cond.code x code maxLocals ret :: tables_1) hat d (List.mem_cons_of_mem _ hd)
  obtain ⟨hsets, hown0⟩ := atoms_of _ (rest_1_c_eq ▸ (show rest_1_c.before _ s = true from hrest))
  obtain ⟨i0, ei0⟩ := is_v ga0
  obtain rfl : w0 = (.int i0) := Option.some.inj ei0
  obtain ⟨i1, ei1⟩ := is_v ga1
  obtain rfl : w1 = (.int i1) := Option.some.inj ei1
  obtain ⟨i2, ei2⟩ := is_v ga2
  obtain rfl : w2 = (.int i2) := Option.some.inj ei2
  obtain ⟨i3, ei3⟩ := is_v ga3
  obtain rfl : w3 = (.int i3) := Option.some.inj ei3
  obtain ⟨i4, ei4⟩ := is_v ga4
  obtain rfl : w4 = (.int i4) := Option.some.inj ei4
  have n5 := not_v (Cond.before_iff.mp (hsets _ (List.mem_of_getElem? (i := 2) rfl)))
  obtain ⟨zc, ezc⟩ := is_v (Cond.before_iff.mp (hsets _ (List.mem_of_getElem? (i := 1) rfl)))
  have C0 : Sta s s.heap "java/lang/String" "COMPACT_STRINGS" "Z" (.int zc) := Sta.start ezc (Or.inl (hsets _ (List.mem_of_getElem? (i := 0) rfl)))
  have hzc : ¬ (zc = (0 : Int32)) := gotF (Cond.eq_ints ezc (Term.int_eval (0))) n5
  obtain ⟨fm, efm, hfm⟩ := isR_v (Cond.before_iff.mp (hsets _ (List.mem_of_getElem? (i := 8) rfl)))
  have eA := own_eqI (Cond.before_iff.mp (hsets _ (List.mem_of_getElem? (i := 12) rfl)))
  have eH := own_eqI (Cond.before_iff.mp (hsets _ (List.mem_of_getElem? (i := 15) rfl)))
  have eL := own_eqI (Cond.before_iff.mp (hsets _ (List.mem_of_getElem? (i := 18) rfl)))
  have US : UST s zc fm := ⟨hzc, C0, Sta.start eA (Or.inl (hsets _ (List.mem_of_getElem? (i := 11) rfl))), Sta.start eH (Or.inl (hsets _ (List.mem_of_getElem? (i := 14) rfl))), Sta.start eL (Or.inl (hsets _ (List.mem_of_getElem? (i := 17) rfl))), hfm, Sta.start efm (Or.inl (hsets _ (List.mem_of_getElem? (i := 7) rfl)))⟩
  have wS : ∀ a ∈ Bundle.stringAtoms, a.before _ s = true := fun d hd => hw d (own_atoms d hd)
  have hEL : EW s _ ownEL := (EW.cons (own := "java/lang/String") (index := 7) (text := "") (wd hw (k := 22) rfl) (by decide) EW.nil)
  have hCH : CHv s ownEL s.vm s.heap := CHv.start hEL (fun p hp => hcalls.1 p (own_consts p hp)) (hsets _ (List.mem_of_getElem? (i := 2) rfl)) (wd hw (k := 23) rfl) (wd hw (k := 9) rfl)
  obtain ⟨n, o, h1, h2, h3, _, L, rfl, ⟨rfl, N⟩, -, hq⟩ := rm1 l s _ hw wS hEL i0 i1 i2 i3 i4 s.heap (W.Ext.refl _) zc fm US p e ha hc hk s m _ below hf ((Spec.applies_iff_loose hf).mp happ).1 ⟨rfl, State.Warmed39.refl s, rfl, hCH, all0⟩ trivial
  refine ⟨n, _, h1, h2, h3, hpost _ _ _ _ _ _ ⟨Cond.after_iff.mpr rfl, Cond.after_iff.mpr (eq_i res_at (Term.int_eval (1)) rfl), trivial⟩ ⟨hq.1, hq.2.1, hq.2.2.1, (hq.2.2.2.sift fun y hy => Or.inr ((N y hy).elim (fun q => nomatch q) id)).mono (by decide) (by decide)⟩⟩
theorem main_1_1 : Claimed_1_1 := comes_1 fun _ _ _ _ _ _ h hF => ⟨h.1, hF⟩
theorem main_1_2 : Claimed_1_2 := comes_1 fun _ _ _ _ _ _ h hF => ⟨h.2.1, hF⟩
end Jvm.Pilot.@@N@@
namespace Jvm.Pilot.@@N@@
open Jvm Jvm.ClassFile Sem Op Lib Jvm.Free Jvm.Stand Jvm.Pilot.@@N@@.Jvm.D
/-! MADE BY PROGRAM (witnessworld.py) out of the Statement's table words and the real class files: 24 classes; the members and pool entries that the words name. The judged class is class 1, her method 1. -/
namespace start1
open Jvm.ClassFile
def u (s : String) : CpInfo := .utf8 (stringToUtf16 s)
/-- a pool by its gaps: so many unusable entries, then the entry; so many at the end -/
def gap : Nat → List CpInfo → List CpInfo
  | 0, r => r
  | n + 1, r => .unusable :: gap n r
def poolList (es : List (Nat × CpInfo)) (last : Nat) : List CpInfo := es.foldr (fun e r => gap e.1 (e.2 :: r)) (gap last [])
def pool (es : List (Nat × CpInfo)) (last : Nat) : Array CpInfo := ⟨poolList es last⟩
def fileOf (pool : Array CpInfo) (this : Nat) (attrs : Array Attribute := #[]) (ms : Array MethodInfo := #[]) (fl : Nat := 33) (sup : Nat := 0) (ifs : Array Nat := #[]) (fds : Array FieldInfo := #[]) : ClassFile where
  minorVersion := 0
  majorVersion := 65
  constantPool := pool
  accessFlags := fl
  thisClass := this
  superClass := sup
  interfaces := ifs
  fields := fds
  methods := ms
  attributes := attrs
def plain (name : String) (sup : Option ClassId) : Class where
  name := name
  kind := .ordinary
  loader := none
  accessFlags := 33
  super := sup
  interfaces := #[]
  cf := none
  fields := #[]
  methods := #[]
  instanceTypes := #[]
  staticTypes := #[]
  resolved := #[]
  callSites := []
  init := .initialized
  statics := none
  mirror := none

def pool0 : Array CpInfo := pool [(5, u "<init>"), (0, u "()V"), (1, .class_ 10), (1, u "java/lang/Object")] 113

def k0c0 : Code := { maxStack := 0, maxLocals := 1, code := object_method_1_code, exceptionTable := #[], attributes := #[] }
def k0m0 : Method := { name := "<init>", desc := "()V", sig := { parameters := [], returnType := none }, accessFlags := 1, code := some k0c0 }
/-- java/lang/Object -/
def k0 : Class := { plain "java/lang/Object" none with
  accessFlags := 33
  interfaces := #[]
  cf := some (fileOf pool0 8 #[] #[{ accessFlags := 1, nameIndex := 5, descriptorIndex := 6, attributes := #[] }] 33 0 #[] #[])
  fields := #[]
  methods := #[k0m0]
  instanceTypes := #[]
  staticTypes := #[]
  resolved := Array.replicate 124 none
  statics := none }

def pool1 : Array CpInfo := pool [(2, .class_ 4), (1, u "java/lang/Object"), (0, u "<init>"), (0, u "()V"), (0, .integer 65535), (0, .methodref 9 10), (0, .class_ 11), (0, .nameAndType 12 13), (0, u "com/example/broker/broker/Utf8OrderComparePinLaw"), (0, u "shape"), (0, u "(CI)C"), (0, .methodref 9 15), (0, .nameAndType 16 17), (0, u "str"), (0, u "(CCCI)Ljava/lang/String;"), (0, .methodref 9 19), (0, .nameAndType 20 21), (0, u "points"), (0, u "(CCCI)[I"), (0, .methodref 9 23), (0, .nameAndType 24 25), (0, u "cmp"), (0, u "(II)I"), (0, .methodref 27 28), (0, .class_ 29), (0, .nameAndType 30 31), (0, u "com/example/broker/broker/Utf8Order"), (0, u "compare"), (0, u "(Ljava/lang/String;Ljava/lang/String;)I"), (0, .integer 55296), (0, .integer 56320), (0, .class_ 35), (0, u "java/lang/String"), (0, .methodref 34 37), (0, .nameAndType 5 38), (0, u "([C)V"), (0, .integer 56319), (0, .integer 57343), (0, .integer 65536), (0, .methodref 9 43), (0, .nameAndType 44 45), (0, u "point"), (0, u "([CII)I"), (0, .methodref 9 47), (0, .nameAndType 48 49), (0, u "width"), (0, u "(I)I"), (2, u "law"), (0, u "(IIIII)Z")] 7

def k1m0 : Method := { name := "<init>", desc := "()V", sig := { parameters := [], returnType := none }, accessFlags := 2, code := none }
def k1c1 : Code := { maxStack := 4, maxLocals := 23, code := code, exceptionTable := #[], attributes := #[] }
def k1m1 : Method := { name := "law", desc := "(IIIII)Z", sig := { parameters := [.int, .int, .int, .int, .int], returnType := some .boolean }, accessFlags := 9, code := some k1c1 }
def k1c2 : Code := { maxStack := 3, maxLocals := 2, code := method_3_code, exceptionTable := #[], attributes := #[] }
def k1m2 : Method := { name := "shape", desc := "(CI)C", sig := { parameters := [.char, .int], returnType := some .char }, accessFlags := 10, code := some k1c2 }
def k1c3 : Code := { maxStack := 6, maxLocals := 4, code := method_4_code, exceptionTable := #[], attributes := #[] }
def k1m3 : Method := { name := "str", desc := "(CCCI)Ljava/lang/String;", sig := { parameters := [.char, .char, .char, .int], returnType := some (.object "java/lang/String") }, accessFlags := 10, code := some k1c3 }
def k1c4 : Code := { maxStack := 3, maxLocals := 5, code := method_5_code, exceptionTable := #[], attributes := #[] }
def k1m4 : Method := { name := "point", desc := "([CII)I", sig := { parameters := [(.array .char), .int, .int], returnType := some .int }, accessFlags := 10, code := some k1c4 }
def k1c5 : Code := { maxStack := 2, maxLocals := 1, code := method_6_code, exceptionTable := #[], attributes := #[] }
def k1m5 : Method := { name := "width", desc := "(I)I", sig := { parameters := [.int], returnType := some .int }, accessFlags := 10, code := some k1c5 }
def k1c6 : Code := { maxStack := 4, maxLocals := 10, code := method_7_code, exceptionTable := #[], attributes := #[] }
def k1m6 : Method := { name := "points", desc := "(CCCI)[I", sig := { parameters := [.char, .char, .char, .int], returnType := some (.array .int) }, accessFlags := 10, code := some k1c6 }
def k1c7 : Code := { maxStack := 2, maxLocals := 2, code := method_8_code, exceptionTable := #[], attributes := #[] }
def k1m7 : Method := { name := "cmp", desc := "(II)I", sig := { parameters := [.int, .int], returnType := some .int }, accessFlags := 10, code := some k1c7 }
/-- com/example/broker/broker/Utf8OrderComparePinLaw -/
def k1 : Class := { plain "com/example/broker/broker/Utf8OrderComparePinLaw" (some 0) with
  accessFlags := 49
  interfaces := #[]
  cf := some (fileOf pool1 9 #[] #[{ accessFlags := 2, nameIndex := 5, descriptorIndex := 6, attributes := #[] }, { accessFlags := 9, nameIndex := 52, descriptorIndex := 53, attributes := #[] }, { accessFlags := 10, nameIndex := 12, descriptorIndex := 13, attributes := #[] }, { accessFlags := 10, nameIndex := 16, descriptorIndex := 17, attributes := #[] }, { accessFlags := 10, nameIndex := 44, descriptorIndex := 45, attributes := #[] }, { accessFlags := 10, nameIndex := 48, descriptorIndex := 49, attributes := #[] }, { accessFlags := 10, nameIndex := 20, descriptorIndex := 21, attributes := #[] }, { accessFlags := 10, nameIndex := 24, descriptorIndex := 25, attributes := #[] }] 49 2 #[] #[])
  fields := #[]
  methods := #[k1m0, k1m1, k1m2, k1m3, k1m4, k1m5, k1m6, k1m7]
  instanceTypes := #[]
  staticTypes := #[]
  resolved := Array.replicate 61 none
  statics := none }

def pool2 : Array CpInfo := pool [(1, .class_ 2), (0, u "java/io/Serializable"), (0, .class_ 4), (0, u "java/lang/Object")] 2

/-- java/io/Serializable -/
def k2 : Class := { plain "java/io/Serializable" (some 0) with
  accessFlags := 1537
  interfaces := #[]
  cf := some (fileOf pool2 1 #[] #[] 1537 3 #[] #[])
  fields := #[]
  methods := #[]
  instanceTypes := #[]
  staticTypes := #[]
  resolved := Array.replicate 7 none
  statics := none }

def pool3 : Array CpInfo := pool [(1, .class_ 2), (0, u "java/lang/Comparable"), (0, .class_ 4), (0, u "java/lang/Object")] 7

/-- java/lang/Comparable -/
def k3 : Class := { plain "java/lang/Comparable" (some 0) with
  accessFlags := 1537
  interfaces := #[]
  cf := some (fileOf pool3 1 #[] #[] 1537 3 #[] #[])
  fields := #[]
  methods := #[]
  instanceTypes := #[]
  staticTypes := #[]
  resolved := Array.replicate 12 none
  statics := none }

def pool4 : Array CpInfo := pool [(2, .class_ 4), (1, u "java/lang/CharSequence"), (42, .class_ 48), (0, u "java/lang/CharSequence$1CodePointIterator"), (10, .class_ 60), (0, u "java/lang/CharSequence$1CharIterator"), (5, .class_ 67), (0, u "java/lang/Object")] 63

/-- java/lang/CharSequence -/
def k4 : Class := { plain "java/lang/CharSequence" (some 0) with
  accessFlags := 1537
  interfaces := #[]
  cf := some (fileOf pool4 2 #[.nestMembers #[47, 59]] #[] 1537 66 #[] #[])
  fields := #[]
  methods := #[]
  instanceTypes := #[]
  staticTypes := #[]
  resolved := Array.replicate 131 none
  statics := none }

def pool5 : Array CpInfo := pool [(1, .class_ 2), (0, u "java/lang/constant/Constable"), (0, .class_ 4), (0, u "java/lang/Object")] 6

/-- java/lang/constant/Constable -/
def k5 : Class := { plain "java/lang/constant/Constable" (some 0) with
  accessFlags := 1537
  interfaces := #[]
  cf := some (fileOf pool5 1 #[] #[] 1537 3 #[] #[])
  fields := #[]
  methods := #[]
  instanceTypes := #[]
  staticTypes := #[]
  resolved := Array.replicate 11 none
  statics := none }

def pool6 : Array CpInfo := pool [(1, .class_ 2), (0, u "java/lang/constant/ConstantDesc"), (0, .class_ 4), (0, u "java/lang/Object")] 32

/-- java/lang/constant/ConstantDesc -/
def k6 : Class := { plain "java/lang/constant/ConstantDesc" (some 0) with
  accessFlags := 1537
  interfaces := #[]
  cf := some (fileOf pool6 1 #[] #[] 1537 3 #[] #[])
  fields := #[]
  methods := #[]
  instanceTypes := #[]
  staticTypes := #[]
  resolved := Array.replicate 37 none
  statics := none }

def pool7 : Array CpInfo := pool [(1, .methodref 2 3), (0, .class_ 4), (0, .nameAndType 5 6), (0, u "java/lang/Object"), (0, u "<init>"), (0, u "()V"), (0, .string 8), (0, u ""), (0, .fieldref 10 11), (0, .class_ 12), (0, .nameAndType 13 14), (0, u "java/lang/String"), (0, u "value"), (0, u "[B"), (0, .fieldref 10 16), (0, .nameAndType 17 18), (0, u "coder"), (0, u "B"), (2, u "hash"), (0, u "I"), (2, u "hashIsZero"), (0, u "Z"), (0, .methodref 10 28), (0, .nameAndType 5 29), (0, u "([CIILjava/lang/Void;)V"), (8, .fieldref 10 39), (0, .nameAndType 40 26), (0, u "COMPACT_STRINGS"), (1, .class_ 44), (1, u "java/lang/StringUTF16"), (0, u "compress"), (1, .methodref 42 48), (0, .nameAndType 49 50), (0, u "coderFromArrayLen"), (0, u "([BI)B"), (46, u "([BII)I"), (44, u "()Z"), (34, .methodref 42 178), (0, .nameAndType 45 179), (0, u "([CII)[B"), (154, u "()I"), (0, .methodref 10 336), (0, .nameAndType 17 337), (0, u "()B"), (53, u "(II)V"), (100, .methodref 10 493), (0, .nameAndType 494 142), (0, u "isLatin1"), (4, .methodref 10 500), (0, .nameAndType 501 391), (0, u "checkIndex"), (0, .methodref 42 503), (0, .nameAndType 504 97), (0, u "codePointAt"), (2, u "length"), (67, .class_ 576), (0, u "java/lang/CharSequence"), (22, u "CASE_INSENSITIVE_ORDER"), (0, u "Ljava/util/Comparator;"), (164, u "(I)I"), (244, u "([C)V"), (42, .fieldref 1054 1055), (0, .class_ 1056), (0, .nameAndType 1057 1058), (0, u "jdk/internal/util/Preconditions"), (0, u "SIOOBE_FORMATTER"), (0, u "Ljava/util/function/BiFunction;"), (0, .methodref 1054 1060), (0, .nameAndType 501 1061), (0, u "(IILjava/util/function/BiFunction;)I"), (39, u "serialPersistentFields"), (0, u "[Ljava/io/ObjectStreamField;"), (0, .class_ 1104), (0, u "java/lang/String$CaseInsensitiveComparator"), (1, .class_ 1107), (0, u "java/io/Serializable"), (0, .class_ 1109), (0, u "java/lang/Comparable"), (0, .class_ 1111), (0, u "java/lang/constant/Constable"), (0, .class_ 1113), (0, u "java/lang/constant/ConstantDesc"), (2, u "serialVersionUID"), (0, u "J"), (3, u "REPL"), (0, u "C"), (2, u "LATIN1"), (1, u "UTF16")] 323

def k7m0 : Method := { name := "<init>", desc := "()V", sig := { parameters := [], returnType := none }, accessFlags := 1, code := none }
def k7c1 : Code := { maxStack := 5, maxLocals := 2, code := jdk_42_method_3_code, exceptionTable := #[], attributes := #[] }
def k7m1 : Method := { name := "<init>", desc := "([C)V", sig := { parameters := [(.array .char)], returnType := none }, accessFlags := 1, code := some k7c1 }
def k7c2 : Code := { maxStack := 2, maxLocals := 1, code := jdk_42_method_54_code, exceptionTable := #[], attributes := #[] }
def k7m2 : Method := { name := "length", desc := "()I", sig := { parameters := [], returnType := some .int }, accessFlags := 1, code := some k7c2 }
def k7c3 : Code := { maxStack := 3, maxLocals := 3, code := jdk_42_method_57_code, exceptionTable := #[], attributes := #[] }
def k7m3 : Method := { name := "codePointAt", desc := "(I)I", sig := { parameters := [.int], returnType := some .int }, accessFlags := 1, code := some k7c3 }
def k7c4 : Code := { maxStack := 4, maxLocals := 6, code := jdk_42_method_149_code, exceptionTable := #[], attributes := #[] }
def k7m4 : Method := { name := "<init>", desc := "([CIILjava/lang/Void;)V", sig := { parameters := [(.array .char), .int, .int, (.object "java/lang/Void")], returnType := none }, accessFlags := 2, code := some k7c4 }
def k7c5 : Code := { maxStack := 1, maxLocals := 1, code := jdk_42_method_152_code, exceptionTable := #[], attributes := #[] }
def k7m5 : Method := { name := "coder", desc := "()B", sig := { parameters := [], returnType := some .byte }, accessFlags := 0, code := some k7c5 }
def k7c6 : Code := { maxStack := 1, maxLocals := 1, code := jdk_42_method_154_code, exceptionTable := #[], attributes := #[] }
def k7m6 : Method := { name := "isLatin1", desc := "()Z", sig := { parameters := [], returnType := some .boolean }, accessFlags := 0, code := some k7c6 }
def k7c7 : Code := { maxStack := 3, maxLocals := 2, code := jdk_42_method_155_code, exceptionTable := #[], attributes := #[] }
def k7m7 : Method := { name := "checkIndex", desc := "(II)V", sig := { parameters := [.int, .int], returnType := none }, accessFlags := 8, code := some k7c7 }
/-- java/lang/String -/
def k7 : Class := { plain "java/lang/String" (some 0) with
  accessFlags := 49
  interfaces := #[2, 3, 4, 5, 6]
  cf := some (fileOf pool7 10 #[.nestMembers #[1103]] #[{ accessFlags := 1, nameIndex := 5, descriptorIndex := 6, attributes := #[] }, { accessFlags := 1, nameIndex := 5, descriptorIndex := 1010, attributes := #[] }, { accessFlags := 1, nameIndex := 507, descriptorIndex := 334, attributes := #[] }, { accessFlags := 1, nameIndex := 504, descriptorIndex := 765, attributes := #[] }, { accessFlags := 2, nameIndex := 5, descriptorIndex := 29, attributes := #[] }, { accessFlags := 0, nameIndex := 17, descriptorIndex := 337, attributes := #[] }, { accessFlags := 0, nameIndex := 494, descriptorIndex := 142, attributes := #[] }, { accessFlags := 8, nameIndex := 501, descriptorIndex := 391, attributes := #[] }] 49 2 #[1106, 1108, 575, 1110, 1112] #[{ accessFlags := 18, nameIndex := 13, descriptorIndex := 14, attributes := #[] }, { accessFlags := 18, nameIndex := 17, descriptorIndex := 18, attributes := #[] }, { accessFlags := 2, nameIndex := 21, descriptorIndex := 22, attributes := #[] }, { accessFlags := 2, nameIndex := 25, descriptorIndex := 26, attributes := #[] }, { accessFlags := 26, nameIndex := 1116, descriptorIndex := 1117, attributes := #[] }, { accessFlags := 24, nameIndex := 40, descriptorIndex := 26, attributes := #[] }, { accessFlags := 26, nameIndex := 1101, descriptorIndex := 1102, attributes := #[] }, { accessFlags := 26, nameIndex := 1121, descriptorIndex := 1122, attributes := #[] }, { accessFlags := 25, nameIndex := 599, descriptorIndex := 600, attributes := #[] }, { accessFlags := 24, nameIndex := 1125, descriptorIndex := 18, attributes := #[] }, { accessFlags := 24, nameIndex := 1127, descriptorIndex := 18, attributes := #[] }])
  fields := #[{ name := "value", type := (.array .byte), accessFlags := 18, slot := 0, constantValue := 0 }, { name := "coder", type := .byte, accessFlags := 18, slot := 1, constantValue := 0 }, { name := "hash", type := .int, accessFlags := 2, slot := 2, constantValue := 0 }, { name := "hashIsZero", type := .boolean, accessFlags := 2, slot := 3, constantValue := 0 }, { name := "serialVersionUID", type := .long, accessFlags := 26, slot := 0, constantValue := 0 }, { name := "COMPACT_STRINGS", type := .boolean, accessFlags := 24, slot := 1, constantValue := 0 }, { name := "serialPersistentFields", type := (.array (.object "java/io/ObjectStreamField")), accessFlags := 26, slot := 2, constantValue := 0 }, { name := "REPL", type := .char, accessFlags := 26, slot := 3, constantValue := 0 }, { name := "CASE_INSENSITIVE_ORDER", type := (.object "java/util/Comparator"), accessFlags := 25, slot := 4, constantValue := 0 }, { name := "LATIN1", type := .byte, accessFlags := 24, slot := 5, constantValue := 0 }, { name := "UTF16", type := .byte, accessFlags := 24, slot := 6, constantValue := 0 }]
  methods := #[k7m0, k7m1, k7m2, k7m3, k7m4, k7m5, k7m6, k7m7]
  instanceTypes := #[(.array .byte), .byte, .int, .boolean]
  staticTypes := #[.long, .boolean, (.array (.object "java/io/ObjectStreamField")), .char, (.object "java/util/Comparator"), .byte, .byte]
  resolved := Array.replicate 1451 none
  statics := some 0 }

def pool8 : Array CpInfo := pool [(2, .class_ 4), (1, u "java/lang/Object"), (0, u "<init>"), (0, u "()V"), (0, .methodref 8 9), (0, .class_ 10), (0, .nameAndType 11 12), (0, u "java/lang/String"), (0, u "length"), (0, u "()I"), (0, .methodref 14 15), (0, .class_ 16), (0, .nameAndType 17 18), (0, u "java/lang/Math"), (0, u "min"), (0, u "(II)I"), (0, .methodref 8 20), (0, .nameAndType 21 22), (0, u "codePointAt"), (0, u "(I)I"), (0, .methodref 24 25), (0, .class_ 26), (0, .nameAndType 27 18), (0, u "java/lang/Integer"), (0, u "compare"), (0, .methodref 29 30), (0, .class_ 31), (0, .nameAndType 32 22), (0, u "java/lang/Character"), (0, u "charCount"), (4, .class_ 39), (1, u "com/example/broker/broker/Utf8Order"), (0, u "COMPARATOR"), (0, u "Ljava/util/Comparator;"), (4, u "(Ljava/lang/String;Ljava/lang/String;)I")] 24

def k8m0 : Method := { name := "<init>", desc := "()V", sig := { parameters := [], returnType := none }, accessFlags := 2, code := none }
def k8c1 : Code := { maxStack := 2, maxLocals := 6, code := prog_29_method_2_code, exceptionTable := #[], attributes := #[] }
def k8m1 : Method := { name := "compare", desc := "(Ljava/lang/String;Ljava/lang/String;)I", sig := { parameters := [(.object "java/lang/String"), (.object "java/lang/String")], returnType := some .int }, accessFlags := 9, code := some k8c1 }
/-- com/example/broker/broker/Utf8Order -/
def k8 : Class := { plain "com/example/broker/broker/Utf8Order" (some 0) with
  accessFlags := 49
  interfaces := #[]
  cf := some (fileOf pool8 37 #[] #[{ accessFlags := 2, nameIndex := 5, descriptorIndex := 6, attributes := #[] }, { accessFlags := 9, nameIndex := 27, descriptorIndex := 46, attributes := #[] }] 49 2 #[] #[{ accessFlags := 25, nameIndex := 40, descriptorIndex := 41, attributes := #[] }])
  fields := #[{ name := "COMPARATOR", type := (.object "java/util/Comparator"), accessFlags := 25, slot := 0, constantValue := 0 }]
  methods := #[k8m0, k8m1]
  instanceTypes := #[]
  staticTypes := #[(.object "java/util/Comparator")]
  resolved := Array.replicate 71 none
  statics := none }

def pool9 : Array CpInfo := pool [(1, .class_ 2), (0, u "java/lang/Math"), (1, .class_ 6), (1, u "java/lang/Object"), (0, u "<init>"), (0, u "()V"), (89, .class_ 100), (1, u "java/lang/Math$RandomNumberGeneratorHolder"), (71, u "negativeZeroFloatBits"), (0, u "J"), (2, u "negativeZeroDoubleBits"), (24, u "min"), (43, u "$assertionsDisabled"), (0, u "Z"), (88, u "(II)I"), (2, u "twoToTheDoubleScaleDown"), (0, u "D"), (4, u "twoToTheDoubleScaleUp"), (9, u "E"), (3, u "PI"), (2, u "TAU"), (2, u "DEGREES_TO_RADIANS"), (0, u "RADIANS_TO_DEGREES")] 94

def k9m0 : Method := { name := "<init>", desc := "()V", sig := { parameters := [], returnType := none }, accessFlags := 2, code := none }
def k9c1 : Code := { maxStack := 2, maxLocals := 2, code := jdk_29_method_69_code, exceptionTable := #[], attributes := #[] }
def k9m1 : Method := { name := "min", desc := "(II)I", sig := { parameters := [.int, .int], returnType := some .int }, accessFlags := 9, code := some k9c1 }
/-- java/lang/Math -/
def k9 : Class := { plain "java/lang/Math" (some 0) with
  accessFlags := 49
  interfaces := #[]
  cf := some (fileOf pool9 1 #[.nestMembers #[98]] #[{ accessFlags := 2, nameIndex := 7, descriptorIndex := 8, attributes := #[] }, { accessFlags := 9, nameIndex := 201, descriptorIndex := 335, attributes := #[] }] 49 4 #[] #[{ accessFlags := 25, nameIndex := 354, descriptorIndex := 339, attributes := #[] }, { accessFlags := 25, nameIndex := 358, descriptorIndex := 339, attributes := #[] }, { accessFlags := 25, nameIndex := 361, descriptorIndex := 339, attributes := #[] }, { accessFlags := 26, nameIndex := 364, descriptorIndex := 339, attributes := #[] }, { accessFlags := 26, nameIndex := 365, descriptorIndex := 339, attributes := #[] }, { accessFlags := 26, nameIndex := 172, descriptorIndex := 173, attributes := #[] }, { accessFlags := 26, nameIndex := 176, descriptorIndex := 173, attributes := #[] }, { accessFlags := 8, nameIndex := 344, descriptorIndex := 339, attributes := #[] }, { accessFlags := 8, nameIndex := 338, descriptorIndex := 339, attributes := #[] }, { accessFlags := 4120, nameIndex := 245, descriptorIndex := 246, attributes := #[] }])
  fields := #[{ name := "E", type := .double, accessFlags := 25, slot := 0, constantValue := 0 }, { name := "PI", type := .double, accessFlags := 25, slot := 1, constantValue := 0 }, { name := "TAU", type := .double, accessFlags := 25, slot := 2, constantValue := 0 }, { name := "DEGREES_TO_RADIANS", type := .double, accessFlags := 26, slot := 3, constantValue := 0 }, { name := "RADIANS_TO_DEGREES", type := .double, accessFlags := 26, slot := 4, constantValue := 0 }, { name := "negativeZeroFloatBits", type := .long, accessFlags := 26, slot := 5, constantValue := 0 }, { name := "negativeZeroDoubleBits", type := .long, accessFlags := 26, slot := 6, constantValue := 0 }, { name := "twoToTheDoubleScaleUp", type := .double, accessFlags := 8, slot := 7, constantValue := 0 }, { name := "twoToTheDoubleScaleDown", type := .double, accessFlags := 8, slot := 8, constantValue := 0 }, { name := "$assertionsDisabled", type := .boolean, accessFlags := 4120, slot := 9, constantValue := 0 }]
  methods := #[k9m0, k9m1]
  instanceTypes := #[]
  staticTypes := #[.double, .double, .double, .double, .double, .long, .long, .double, .double, .boolean]
  resolved := Array.replicate 460 none
  statics := none }

def pool10 : Array CpInfo := pool [(2, .class_ 4), (1, u "java/lang/Object"), (0, u "<init>"), (0, u "()V"), (1, .class_ 10), (1, u "java/lang/Number"), (2, .class_ 14), (0, u "java/io/Serializable"), (0, u "serialVersionUID"), (0, u "J")] 20

def k10m0 : Method := { name := "<init>", desc := "()V", sig := { parameters := [], returnType := none }, accessFlags := 1, code := none }
/-- java/lang/Number -/
def k10 : Class := { plain "java/lang/Number" (some 0) with
  accessFlags := 1057
  interfaces := #[2]
  cf := some (fileOf pool10 8 #[] #[{ accessFlags := 1, nameIndex := 5, descriptorIndex := 6, attributes := #[] }] 1057 2 #[13] #[{ accessFlags := 26, nameIndex := 15, descriptorIndex := 16, attributes := #[] }])
  fields := #[{ name := "serialVersionUID", type := .long, accessFlags := 26, slot := 0, constantValue := 0 }]
  methods := #[k10m0]
  instanceTypes := #[]
  staticTypes := #[.long]
  resolved := Array.replicate 37 none
  statics := none }

def pool11 : Array CpInfo := pool [(1, .class_ 2), (0, u "java/lang/Integer"), (16, u "digits"), (0, u "[C"), (39, u "(II)I"), (24, u "DigitOnes"), (0, u "[B"), (2, u "DigitTens"), (99, .class_ 190), (0, u "java/lang/Integer$IntegerCache"), (3, u "I"), (8, .class_ 204), (0, u "java/lang/Number"), (2, u "value"), (53, u "compare"), (40, u "TYPE"), (0, u "Ljava/lang/Class;"), (0, .class_ 305), (0, u "java/lang/Comparable"), (0, .class_ 307), (0, u "java/lang/constant/Constable"), (0, .class_ 309), (0, u "java/lang/constant/ConstantDesc"), (0, u "MIN_VALUE"), (1, u "MAX_VALUE"), (3, u "SIZE"), (1, u "BYTES"), (1, u "serialVersionUID"), (0, u "J")] 131

def k11c0 : Code := { maxStack := 2, maxLocals := 2, code := jdk_33_method_40_code, exceptionTable := #[], attributes := #[] }
def k11m0 : Method := { name := "compare", desc := "(II)I", sig := { parameters := [.int, .int], returnType := some .int }, accessFlags := 9, code := some k11c0 }
/-- java/lang/Integer -/
def k11 : Class := { plain "java/lang/Integer" (some 10) with
  accessFlags := 49
  interfaces := #[3, 5, 6]
  cf := some (fileOf pool11 1 #[.nestMembers #[189]] #[{ accessFlags := 9, nameIndex := 261, descriptorIndex := 60, attributes := #[] }] 49 203 #[304, 306, 308] #[{ accessFlags := 25, nameIndex := 310, descriptorIndex := 194, attributes := #[] }, { accessFlags := 25, nameIndex := 312, descriptorIndex := 194, attributes := #[] }, { accessFlags := 25, nameIndex := 302, descriptorIndex := 303, attributes := #[] }, { accessFlags := 24, nameIndex := 19, descriptorIndex := 20, attributes := #[] }, { accessFlags := 24, nameIndex := 89, descriptorIndex := 86, attributes := #[] }, { accessFlags := 24, nameIndex := 85, descriptorIndex := 86, attributes := #[] }, { accessFlags := 18, nameIndex := 207, descriptorIndex := 194, attributes := #[] }, { accessFlags := 25, nameIndex := 316, descriptorIndex := 194, attributes := #[] }, { accessFlags := 25, nameIndex := 318, descriptorIndex := 194, attributes := #[] }, { accessFlags := 26, nameIndex := 320, descriptorIndex := 321, attributes := #[] }])
  fields := #[{ name := "MIN_VALUE", type := .int, accessFlags := 25, slot := 0, constantValue := 0 }, { name := "MAX_VALUE", type := .int, accessFlags := 25, slot := 1, constantValue := 0 }, { name := "TYPE", type := (.object "java/lang/Class"), accessFlags := 25, slot := 2, constantValue := 0 }, { name := "digits", type := (.array .char), accessFlags := 24, slot := 3, constantValue := 0 }, { name := "DigitTens", type := (.array .byte), accessFlags := 24, slot := 4, constantValue := 0 }, { name := "DigitOnes", type := (.array .byte), accessFlags := 24, slot := 5, constantValue := 0 }, { name := "value", type := .int, accessFlags := 18, slot := 0, constantValue := 0 }, { name := "SIZE", type := .int, accessFlags := 25, slot := 6, constantValue := 0 }, { name := "BYTES", type := .int, accessFlags := 25, slot := 7, constantValue := 0 }, { name := "serialVersionUID", type := .long, accessFlags := 26, slot := 8, constantValue := 0 }]
  methods := #[k11m0]
  instanceTypes := #[.int]
  staticTypes := #[.int, .int, (.object "java/lang/Class"), (.array .char), (.array .byte), (.array .byte), .int, .int, .long]
  resolved := Array.replicate 453 none
  statics := none }

def pool12 : Array CpInfo := pool [(6, .class_ 8), (1, u "java/lang/Object"), (0, u "<init>"), (0, u "()V"), (0, .methodref 12 13), (0, .class_ 14), (0, .nameAndType 15 16), (0, u "java/lang/StringUTF16"), (0, u "newBytesLength"), (0, u "(I)I"), (3, .integer 1073741823), (23, .fieldref 12 45), (0, .nameAndType 46 47), (0, u "$assertionsDisabled"), (0, u "Z"), (11, .fieldref 12 60), (0, .nameAndType 61 62), (0, u "HI_BYTE_SHIFT"), (0, u "I"), (0, .fieldref 12 64), (0, .nameAndType 65 62), (0, u "LO_BYTE_SHIFT"), (5, .methodref 12 72), (0, .nameAndType 73 74), (0, u "getChar"), (0, u "([BI)C"), (0, .methodref 76 77), (0, .class_ 78), (0, .nameAndType 79 80), (0, u "java/lang/Character"), (0, u "isHighSurrogate"), (0, u "(C)Z"), (0, .methodref 76 82), (0, .nameAndType 83 80), (0, u "isLowSurrogate"), (0, .methodref 76 85), (0, .nameAndType 86 87), (0, u "toCodePoint"), (0, u "(CC)I"), (0, .methodref 12 89), (0, .nameAndType 90 91), (0, u "codePointAt"), (0, u "([BIIZ)I"), (15, .methodref 12 108), (0, .nameAndType 109 110), (0, u "newBytesFor"), (0, u "(I)[B"), (0, .methodref 12 112), (0, .nameAndType 113 114), (0, u "putChar"), (0, u "([BII)V"), (0, .methodref 12 116), (0, .nameAndType 117 118), (0, u "compress"), (0, u "([CI[BII)I"), (0, .methodref 12 120), (0, .nameAndType 121 122), (0, u "toBytes"), (0, u "([CII)[B"), (127, u "([BII)I"), (10, u "coderFromArrayLen"), (0, u "([BI)B"), (106, .class_ 371), (1, u "java/lang/StringUTF16$LinesSpliterator"), (58, u "MAX_LENGTH"), (196, .class_ 628), (0, u "java/lang/StringUTF16$CodePointsSpliterator"), (0, .class_ 630), (0, u "java/lang/StringUTF16$CharsSpliterator")] 4

def k12m0 : Method := { name := "<init>", desc := "()V", sig := { parameters := [], returnType := none }, accessFlags := 0, code := none }
def k12c1 : Code := { maxStack := 1, maxLocals := 1, code := jdk_52_method_2_code, exceptionTable := #[], attributes := #[] }
def k12m1 : Method := { name := "newBytesFor", desc := "(I)[B", sig := { parameters := [.int], returnType := some (.array .byte) }, accessFlags := 9, code := some k12c1 }
def k12c2 : Code := { maxStack := 4, maxLocals := 1, code := jdk_52_method_3_code, exceptionTable := #[], attributes := #[] }
def k12m2 : Method := { name := "newBytesLength", desc := "(I)I", sig := { parameters := [.int], returnType := some .int }, accessFlags := 9, code := some k12c2 }
def k12c3 : Code := { maxStack := 4, maxLocals := 3, code := jdk_52_method_4_code, exceptionTable := #[], attributes := #[] }
def k12m3 : Method := { name := "putChar", desc := "([BII)V", sig := { parameters := [(.array .byte), .int, .int], returnType := none }, accessFlags := 8, code := some k12c3 }
def k12c4 : Code := { maxStack := 3, maxLocals := 2, code := jdk_52_method_5_code, exceptionTable := #[], attributes := #[] }
def k12m4 : Method := { name := "getChar", desc := "([BI)C", sig := { parameters := [(.array .byte), .int], returnType := some .char }, accessFlags := 8, code := some k12c4 }
def k12c5 : Code := { maxStack := 2, maxLocals := 6, code := jdk_52_method_7_code, exceptionTable := #[], attributes := #[] }
def k12m5 : Method := { name := "codePointAt", desc := "([BIIZ)I", sig := { parameters := [(.array .byte), .int, .int, .boolean], returnType := some .int }, accessFlags := 10, code := some k12c5 }
def k12c6 : Code := { maxStack := 4, maxLocals := 3, code := jdk_52_method_8_code, exceptionTable := #[], attributes := #[] }
def k12m6 : Method := { name := "codePointAt", desc := "([BII)I", sig := { parameters := [(.array .byte), .int, .int], returnType := some .int }, accessFlags := 9, code := some k12c6 }
def k12c7 : Code := { maxStack := 4, maxLocals := 5, code := jdk_52_method_14_code, exceptionTable := #[], attributes := #[] }
def k12m7 : Method := { name := "toBytes", desc := "([CII)[B", sig := { parameters := [(.array .char), .int, .int], returnType := some (.array .byte) }, accessFlags := 9, code := some k12c7 }
def k12c8 : Code := { maxStack := 2, maxLocals := 2, code := jdk_52_method_15_code, exceptionTable := #[], attributes := #[] }
def k12m8 : Method := { name := "coderFromArrayLen", desc := "([BI)B", sig := { parameters := [(.array .byte), .int], returnType := some .byte }, accessFlags := 8, code := some k12c8 }
def k12c9 : Code := { maxStack := 5, maxLocals := 6, code := jdk_52_method_16_code, exceptionTable := #[], attributes := #[] }
def k12m9 : Method := { name := "compress", desc := "([CII)[B", sig := { parameters := [(.array .char), .int, .int], returnType := some (.array .byte) }, accessFlags := 9, code := some k12c9 }
def k12c10 : Code := { maxStack := 3, maxLocals := 7, code := jdk_52_method_21_code, exceptionTable := #[], attributes := #[] }
def k12m10 : Method := { name := "compress", desc := "([CI[BII)I", sig := { parameters := [(.array .char), .int, (.array .byte), .int, .int], returnType := some .int }, accessFlags := 9, code := some k12c10 }
/-- java/lang/StringUTF16 -/
def k12 : Class := { plain "java/lang/StringUTF16" (some 0) with
  accessFlags := 48
  interfaces := #[]
  cf := some (fileOf pool12 12 #[.nestMembers #[627, 629, 369]] #[{ accessFlags := 0, nameIndex := 9, descriptorIndex := 10, attributes := #[] }, { accessFlags := 9, nameIndex := 109, descriptorIndex := 110, attributes := #[] }, { accessFlags := 9, nameIndex := 15, descriptorIndex := 16, attributes := #[] }, { accessFlags := 8, nameIndex := 113, descriptorIndex := 114, attributes := #[] }, { accessFlags := 8, nameIndex := 73, descriptorIndex := 74, attributes := #[] }, { accessFlags := 10, nameIndex := 90, descriptorIndex := 91, attributes := #[] }, { accessFlags := 9, nameIndex := 90, descriptorIndex := 250, attributes := #[] }, { accessFlags := 9, nameIndex := 121, descriptorIndex := 122, attributes := #[] }, { accessFlags := 8, nameIndex := 261, descriptorIndex := 262, attributes := #[] }, { accessFlags := 9, nameIndex := 117, descriptorIndex := 122, attributes := #[] }, { accessFlags := 9, nameIndex := 117, descriptorIndex := 118, attributes := #[] }] 48 6 #[] #[{ accessFlags := 26, nameIndex := 61, descriptorIndex := 62, attributes := #[] }, { accessFlags := 26, nameIndex := 65, descriptorIndex := 62, attributes := #[] }, { accessFlags := 24, nameIndex := 430, descriptorIndex := 62, attributes := #[] }, { accessFlags := 4120, nameIndex := 46, descriptorIndex := 47, attributes := #[] }])
  fields := #[{ name := "HI_BYTE_SHIFT", type := .int, accessFlags := 26, slot := 0, constantValue := 0 }, { name := "LO_BYTE_SHIFT", type := .int, accessFlags := 26, slot := 1, constantValue := 0 }, { name := "MAX_LENGTH", type := .int, accessFlags := 24, slot := 2, constantValue := 0 }, { name := "$assertionsDisabled", type := .boolean, accessFlags := 4120, slot := 3, constantValue := 0 }]
  methods := #[k12m0, k12m1, k12m2, k12m3, k12m4, k12m5, k12m6, k12m7, k12m8, k12m9, k12m10]
  instanceTypes := #[]
  staticTypes := #[.int, .int, .int, .boolean]
  resolved := Array.replicate 635 none
  statics := some 1 }

def pool13 : Array CpInfo := pool [(2, .class_ 4), (1, u "java/lang/Object"), (0, u "<init>"), (0, u "()V"), (17, .class_ 26), (1, u "jdk/internal/util/Preconditions"), (6, u "checkIndex"), (21, .class_ 56), (0, u "jdk/internal/util/Preconditions$4"), (57, .class_ 115), (0, u "jdk/internal/util/Preconditions$1"), (7, u "SIOOBE_FORMATTER"), (0, u "Ljava/util/function/BiFunction;"), (0, .class_ 126), (0, u "jdk/internal/util/Preconditions$2"), (3, u "AIOOBE_FORMATTER"), (0, .class_ 132), (0, u "jdk/internal/util/Preconditions$3"), (3, u "IOOBE_FORMATTER"), (41, u "(IILjava/util/function/BiFunction;)I")] 15

def k13m0 : Method := { name := "<init>", desc := "()V", sig := { parameters := [], returnType := none }, accessFlags := 1, code := none }
def k13c1 : Code := { maxStack := 3, maxLocals := 3, code := jdk_41_method_11_code, exceptionTable := #[], attributes := #[] }
def k13m1 : Method := { name := "checkIndex", desc := "(IILjava/util/function/BiFunction;)I", sig := { parameters := [.int, .int, (.object "java/util/function/BiFunction")], returnType := some .int }, accessFlags := 9, code := some k13c1 }
/-- jdk/internal/util/Preconditions -/
def k13 : Class := { plain "jdk/internal/util/Preconditions" (some 0) with
  accessFlags := 33
  interfaces := #[]
  cf := some (fileOf pool13 24 #[.nestMembers #[55, 131, 125, 114]] #[{ accessFlags := 1, nameIndex := 5, descriptorIndex := 6, attributes := #[] }, { accessFlags := 9, nameIndex := 33, descriptorIndex := 178, attributes := #[] }] 33 2 #[] #[{ accessFlags := 25, nameIndex := 123, descriptorIndex := 124, attributes := #[] }, { accessFlags := 25, nameIndex := 130, descriptorIndex := 124, attributes := #[] }, { accessFlags := 25, nameIndex := 136, descriptorIndex := 124, attributes := #[] }])
  fields := #[{ name := "SIOOBE_FORMATTER", type := (.object "java/util/function/BiFunction"), accessFlags := 25, slot := 0, constantValue := 0 }, { name := "AIOOBE_FORMATTER", type := (.object "java/util/function/BiFunction"), accessFlags := 25, slot := 1, constantValue := 0 }, { name := "IOOBE_FORMATTER", type := (.object "java/util/function/BiFunction"), accessFlags := 25, slot := 2, constantValue := 0 }]
  methods := #[k13m0, k13m1]
  instanceTypes := #[]
  staticTypes := #[(.object "java/util/function/BiFunction"), (.object "java/util/function/BiFunction"), (.object "java/util/function/BiFunction")]
  resolved := Array.replicate 194 none
  statics := some 2 }

def pool14 : Array CpInfo := pool [(1, .class_ 2), (0, u "java/lang/Character"), (18, u "value"), (0, u "C"), (19, .class_ 44), (1, u "java/lang/Object"), (3, .class_ 50), (1, u "java/lang/Character$CharacterCache"), (22, .integer 65536), (1, .integer 55296), (0, .integer 56320), (0, .integer 57344), (2, u "isHighSurrogate"), (0, u "(C)Z"), (2, u "isLowSurrogate"), (0, .integer 4238353408), (12, u "toCodePoint"), (0, u "(CC)I"), (74, u "(I)I"), (109, u "$assertionsDisabled"), (0, u "Z"), (21, .class_ 309), (1, u "java/lang/Character$UnicodeBlock"), (73, u "TYPE"), (0, u "Ljava/lang/Class;"), (0, .class_ 386), (0, u "java/io/Serializable"), (0, .class_ 388), (0, u "java/lang/Comparable"), (0, .class_ 390), (0, u "java/lang/constant/Constable"), (0, u "MIN_RADIX"), (0, u "I"), (2, u "MAX_RADIX"), (1, u "MIN_VALUE"), (1, u "MAX_VALUE"), (3, u "UNASSIGNED"), (0, u "B"), (0, u "UPPERCASE_LETTER"), (1, u "LOWERCASE_LETTER"), (0, u "TITLECASE_LETTER"), (1, u "MODIFIER_LETTER"), (1, u "OTHER_LETTER"), (1, u "NON_SPACING_MARK"), (1, u "ENCLOSING_MARK"), (1, u "COMBINING_SPACING_MARK"), (1, u "DECIMAL_DIGIT_NUMBER"), (1, u "LETTER_NUMBER"), (1, u "OTHER_NUMBER"), (1, u "SPACE_SEPARATOR"), (1, u "LINE_SEPARATOR"), (1, u "PARAGRAPH_SEPARATOR"), (1, u "CONTROL"), (1, u "FORMAT"), (1, u "PRIVATE_USE"), (1, u "SURROGATE"), (1, u "DASH_PUNCTUATION"), (1, u "START_PUNCTUATION"), (1, u "END_PUNCTUATION"), (1, u "CONNECTOR_PUNCTUATION"), (1, u "OTHER_PUNCTUATION"), (1, u "MATH_SYMBOL"), (1, u "CURRENCY_SYMBOL"), (1, u "MODIFIER_SYMBOL"), (1, u "OTHER_SYMBOL"), (1, u "INITIAL_QUOTE_PUNCTUATION"), (1, u "FINAL_QUOTE_PUNCTUATION"), (1, u "ERROR"), (1, u "DIRECTIONALITY_UNDEFINED"), (0, u "DIRECTIONALITY_LEFT_TO_RIGHT"), (0, u "DIRECTIONALITY_RIGHT_TO_LEFT"), (0, u "DIRECTIONALITY_RIGHT_TO_LEFT_ARABIC"), (0, u "DIRECTIONALITY_EUROPEAN_NUMBER"), (0, u "DIRECTIONALITY_EUROPEAN_NUMBER_SEPARATOR"), (0, u "DIRECTIONALITY_EUROPEAN_NUMBER_TERMINATOR"), (0, u "DIRECTIONALITY_ARABIC_NUMBER"), (0, u "DIRECTIONALITY_COMMON_NUMBER_SEPARATOR"), (0, u "DIRECTIONALITY_NONSPACING_MARK"), (0, u "DIRECTIONALITY_BOUNDARY_NEUTRAL"), (0, u "DIRECTIONALITY_PARAGRAPH_SEPARATOR"), (0, u "DIRECTIONALITY_SEGMENT_SEPARATOR"), (0, u "DIRECTIONALITY_WHITESPACE"), (0, u "DIRECTIONALITY_OTHER_NEUTRALS"), (0, u "DIRECTIONALITY_LEFT_TO_RIGHT_EMBEDDING"), (0, u "DIRECTIONALITY_LEFT_TO_RIGHT_OVERRIDE"), (0, u "DIRECTIONALITY_RIGHT_TO_LEFT_EMBEDDING"), (0, u "DIRECTIONALITY_RIGHT_TO_LEFT_OVERRIDE"), (1, u "DIRECTIONALITY_POP_DIRECTIONAL_FORMAT"), (0, u "DIRECTIONALITY_LEFT_TO_RIGHT_ISOLATE"), (0, u "DIRECTIONALITY_RIGHT_TO_LEFT_ISOLATE"), (0, u "DIRECTIONALITY_FIRST_STRONG_ISOLATE"), (0, u "DIRECTIONALITY_POP_DIRECTIONAL_ISOLATE"), (0, u "MIN_HIGH_SURROGATE"), (0, u "MAX_HIGH_SURROGATE"), (1, u "MIN_LOW_SURROGATE"), (0, u "MAX_LOW_SURROGATE"), (1, u "MIN_SURROGATE"), (0, u "MAX_SURROGATE"), (0, u "MIN_SUPPLEMENTARY_CODE_POINT"), (0, u "MIN_CODE_POINT"), (0, u "MAX_CODE_POINT"), (1, u "serialVersionUID"), (0, u "J"), (2, u "SIZE"), (0, u "BYTES"), (29, u "charCount"), (58, .class_ 596), (0, u "java/lang/Character$UnicodeScript"), (0, .class_ 598), (0, u "java/lang/Character$Subset")] 5

def k14c0 : Code := { maxStack := 2, maxLocals := 1, code := jdk_89_method_14_code, exceptionTable := #[], attributes := #[] }
def k14m0 : Method := { name := "isHighSurrogate", desc := "(C)Z", sig := { parameters := [.char], returnType := some .boolean }, accessFlags := 9, code := some k14c0 }
def k14c1 : Code := { maxStack := 2, maxLocals := 1, code := jdk_89_method_15_code, exceptionTable := #[], attributes := #[] }
def k14m1 : Method := { name := "isLowSurrogate", desc := "(C)Z", sig := { parameters := [.char], returnType := some .boolean }, accessFlags := 9, code := some k14c1 }
def k14c2 : Code := { maxStack := 2, maxLocals := 1, code := jdk_89_method_18_code, exceptionTable := #[], attributes := #[] }
def k14m2 : Method := { name := "charCount", desc := "(I)I", sig := { parameters := [.int], returnType := some .int }, accessFlags := 9, code := some k14c2 }
def k14c3 : Code := { maxStack := 2, maxLocals := 2, code := jdk_89_method_19_code, exceptionTable := #[], attributes := #[] }
def k14m3 : Method := { name := "toCodePoint", desc := "(CC)I", sig := { parameters := [.char, .char], returnType := some .int }, accessFlags := 9, code := some k14c3 }
/-- java/lang/Character -/
def k14 : Class := { plain "java/lang/Character" (some 0) with
  accessFlags := 49
  interfaces := #[2, 3, 5]
  cf := some (fileOf pool14 1 #[.nestMembers #[48, 595, 307, 597]] #[{ accessFlags := 9, nameIndex := 80, descriptorIndex := 81, attributes := #[] }, { accessFlags := 9, nameIndex := 84, descriptorIndex := 81, attributes := #[] }, { accessFlags := 9, nameIndex := 536, descriptorIndex := 174, attributes := #[] }, { accessFlags := 9, nameIndex := 98, descriptorIndex := 99, attributes := #[] }] 49 42 #[385, 387, 389] #[{ accessFlags := 25, nameIndex := 391, descriptorIndex := 392, attributes := #[] }, { accessFlags := 25, nameIndex := 395, descriptorIndex := 392, attributes := #[] }, { accessFlags := 25, nameIndex := 397, descriptorIndex := 22, attributes := #[] }, { accessFlags := 25, nameIndex := 399, descriptorIndex := 22, attributes := #[] }, { accessFlags := 25, nameIndex := 383, descriptorIndex := 384, attributes := #[] }, { accessFlags := 25, nameIndex := 403, descriptorIndex := 404, attributes := #[] }, { accessFlags := 25, nameIndex := 405, descriptorIndex := 404, attributes := #[] }, { accessFlags := 25, nameIndex := 407, descriptorIndex := 404, attributes := #[] }, { accessFlags := 25, nameIndex := 408, descriptorIndex := 404, attributes := #[] }, { accessFlags := 25, nameIndex := 410, descriptorIndex := 404, attributes := #[] }, { accessFlags := 25, nameIndex := 412, descriptorIndex := 404, attributes := #[] }, { accessFlags := 25, nameIndex := 414, descriptorIndex := 404, attributes := #[] }, { accessFlags := 25, nameIndex := 416, descriptorIndex := 404, attributes := #[] }, { accessFlags := 25, nameIndex := 418, descriptorIndex := 404, attributes := #[] }, { accessFlags := 25, nameIndex := 420, descriptorIndex := 404, attributes := #[] }, { accessFlags := 25, nameIndex := 422, descriptorIndex := 404, attributes := #[] }, { accessFlags := 25, nameIndex := 424, descriptorIndex := 404, attributes := #[] }, { accessFlags := 25, nameIndex := 426, descriptorIndex := 404, attributes := #[] }, { accessFlags := 25, nameIndex := 428, descriptorIndex := 404, attributes := #[] }, { accessFlags := 25, nameIndex := 430, descriptorIndex := 404, attributes := #[] }, { accessFlags := 25, nameIndex := 432, descriptorIndex := 404, attributes := #[] }, { accessFlags := 25, nameIndex := 434, descriptorIndex := 404, attributes := #[] }, { accessFlags := 25, nameIndex := 436, descriptorIndex := 404, attributes := #[] }, { accessFlags := 25, nameIndex := 438, descriptorIndex := 404, attributes := #[] }, { accessFlags := 25, nameIndex := 440, descriptorIndex := 404, attributes := #[] }, { accessFlags := 25, nameIndex := 442, descriptorIndex := 404, attributes := #[] }, { accessFlags := 25, nameIndex := 444, descriptorIndex := 404, attributes := #[] }, { accessFlags := 25, nameIndex := 446, descriptorIndex := 404, attributes := #[] }, { accessFlags := 25, nameIndex := 448, descriptorIndex := 404, attributes := #[] }, { accessFlags := 25, nameIndex := 450, descriptorIndex := 404, attributes := #[] }, { accessFlags := 25, nameIndex := 452, descriptorIndex := 404, attributes := #[] }, { accessFlags := 25, nameIndex := 454, descriptorIndex := 404, attributes := #[] }, { accessFlags := 25, nameIndex := 456, descriptorIndex := 404, attributes := #[] }, { accessFlags := 25, nameIndex := 458, descriptorIndex := 404, attributes := #[] }, { accessFlags := 25, nameIndex := 460, descriptorIndex := 404, attributes := #[] }, { accessFlags := 24, nameIndex := 462, descriptorIndex := 392, attributes := #[] }, { accessFlags := 25, nameIndex := 464, descriptorIndex := 404, attributes := #[] }, { accessFlags := 25, nameIndex := 465, descriptorIndex := 404, attributes := #[] }, { accessFlags := 25, nameIndex := 466, descriptorIndex := 404, attributes := #[] }, { accessFlags := 25, nameIndex := 467, descriptorIndex := 404, attributes := #[] }, { accessFlags := 25, nameIndex := 468, descriptorIndex := 404, attributes := #[] }, { accessFlags := 25, nameIndex := 469, descriptorIndex := 404, attributes := #[] }, { accessFlags := 25, nameIndex := 470, descriptorIndex := 404, attributes := #[] }, { accessFlags := 25, nameIndex := 471, descriptorIndex := 404, attributes := #[] }, { accessFlags := 25, nameIndex := 472, descriptorIndex := 404, attributes := #[] }, { accessFlags := 25, nameIndex := 473, descriptorIndex := 404, attributes := #[] }, { accessFlags := 25, nameIndex := 474, descriptorIndex := 404, attributes := #[] }, { accessFlags := 25, nameIndex := 475, descriptorIndex := 404, attributes := #[] }, { accessFlags := 25, nameIndex := 476, descriptorIndex := 404, attributes := #[] }, { accessFlags := 25, nameIndex := 477, descriptorIndex := 404, attributes := #[] }, { accessFlags := 25, nameIndex := 478, descriptorIndex := 404, attributes := #[] }, { accessFlags := 25, nameIndex := 479, descriptorIndex := 404, attributes := #[] }, { accessFlags := 25, nameIndex := 480, descriptorIndex := 404, attributes := #[] }, { accessFlags := 25, nameIndex := 481, descriptorIndex := 404, attributes := #[] }, { accessFlags := 25, nameIndex := 482, descriptorIndex := 404, attributes := #[] }, { accessFlags := 25, nameIndex := 484, descriptorIndex := 404, attributes := #[] }, { accessFlags := 25, nameIndex := 485, descriptorIndex := 404, attributes := #[] }, { accessFlags := 25, nameIndex := 486, descriptorIndex := 404, attributes := #[] }, { accessFlags := 25, nameIndex := 487, descriptorIndex := 404, attributes := #[] }, { accessFlags := 25, nameIndex := 488, descriptorIndex := 404, attributes := #[] }, { accessFlags := 25, nameIndex := 489, descriptorIndex := 22, attributes := #[] }, { accessFlags := 25, nameIndex := 490, descriptorIndex := 22, attributes := #[] }, { accessFlags := 25, nameIndex := 492, descriptorIndex := 22, attributes := #[] }, { accessFlags := 25, nameIndex := 493, descriptorIndex := 22, attributes := #[] }, { accessFlags := 25, nameIndex := 495, descriptorIndex := 22, attributes := #[] }, { accessFlags := 25, nameIndex := 496, descriptorIndex := 22, attributes := #[] }, { accessFlags := 25, nameIndex := 497, descriptorIndex := 392, attributes := #[] }, { accessFlags := 25, nameIndex := 498, descriptorIndex := 392, attributes := #[] }, { accessFlags := 25, nameIndex := 499, descriptorIndex := 392, attributes := #[] }, { accessFlags := 18, nameIndex := 21, descriptorIndex := 22, attributes := #[] }, { accessFlags := 26, nameIndex := 501, descriptorIndex := 502, attributes := #[] }, { accessFlags := 25, nameIndex := 505, descriptorIndex := 392, attributes := #[] }, { accessFlags := 25, nameIndex := 506, descriptorIndex := 392, attributes := #[] }, { accessFlags := 4120, nameIndex := 284, descriptorIndex := 285, attributes := #[] }])
  fields := #[{ name := "MIN_RADIX", type := .int, accessFlags := 25, slot := 0, constantValue := 0 }, { name := "MAX_RADIX", type := .int, accessFlags := 25, slot := 1, constantValue := 0 }, { name := "MIN_VALUE", type := .char, accessFlags := 25, slot := 2, constantValue := 0 }, { name := "MAX_VALUE", type := .char, accessFlags := 25, slot := 3, constantValue := 0 }, { name := "TYPE", type := (.object "java/lang/Class"), accessFlags := 25, slot := 4, constantValue := 0 }, { name := "UNASSIGNED", type := .byte, accessFlags := 25, slot := 5, constantValue := 0 }, { name := "UPPERCASE_LETTER", type := .byte, accessFlags := 25, slot := 6, constantValue := 0 }, { name := "LOWERCASE_LETTER", type := .byte, accessFlags := 25, slot := 7, constantValue := 0 }, { name := "TITLECASE_LETTER", type := .byte, accessFlags := 25, slot := 8, constantValue := 0 }, { name := "MODIFIER_LETTER", type := .byte, accessFlags := 25, slot := 9, constantValue := 0 }, { name := "OTHER_LETTER", type := .byte, accessFlags := 25, slot := 10, constantValue := 0 }, { name := "NON_SPACING_MARK", type := .byte, accessFlags := 25, slot := 11, constantValue := 0 }, { name := "ENCLOSING_MARK", type := .byte, accessFlags := 25, slot := 12, constantValue := 0 }, { name := "COMBINING_SPACING_MARK", type := .byte, accessFlags := 25, slot := 13, constantValue := 0 }, { name := "DECIMAL_DIGIT_NUMBER", type := .byte, accessFlags := 25, slot := 14, constantValue := 0 }, { name := "LETTER_NUMBER", type := .byte, accessFlags := 25, slot := 15, constantValue := 0 }, { name := "OTHER_NUMBER", type := .byte, accessFlags := 25, slot := 16, constantValue := 0 }, { name := "SPACE_SEPARATOR", type := .byte, accessFlags := 25, slot := 17, constantValue := 0 }, { name := "LINE_SEPARATOR", type := .byte, accessFlags := 25, slot := 18, constantValue := 0 }, { name := "PARAGRAPH_SEPARATOR", type := .byte, accessFlags := 25, slot := 19, constantValue := 0 }, { name := "CONTROL", type := .byte, accessFlags := 25, slot := 20, constantValue := 0 }, { name := "FORMAT", type := .byte, accessFlags := 25, slot := 21, constantValue := 0 }, { name := "PRIVATE_USE", type := .byte, accessFlags := 25, slot := 22, constantValue := 0 }, { name := "SURROGATE", type := .byte, accessFlags := 25, slot := 23, constantValue := 0 }, { name := "DASH_PUNCTUATION", type := .byte, accessFlags := 25, slot := 24, constantValue := 0 }, { name := "START_PUNCTUATION", type := .byte, accessFlags := 25, slot := 25, constantValue := 0 }, { name := "END_PUNCTUATION", type := .byte, accessFlags := 25, slot := 26, constantValue := 0 }, { name := "CONNECTOR_PUNCTUATION", type := .byte, accessFlags := 25, slot := 27, constantValue := 0 }, { name := "OTHER_PUNCTUATION", type := .byte, accessFlags := 25, slot := 28, constantValue := 0 }, { name := "MATH_SYMBOL", type := .byte, accessFlags := 25, slot := 29, constantValue := 0 }, { name := "CURRENCY_SYMBOL", type := .byte, accessFlags := 25, slot := 30, constantValue := 0 }, { name := "MODIFIER_SYMBOL", type := .byte, accessFlags := 25, slot := 31, constantValue := 0 }, { name := "OTHER_SYMBOL", type := .byte, accessFlags := 25, slot := 32, constantValue := 0 }, { name := "INITIAL_QUOTE_PUNCTUATION", type := .byte, accessFlags := 25, slot := 33, constantValue := 0 }, { name := "FINAL_QUOTE_PUNCTUATION", type := .byte, accessFlags := 25, slot := 34, constantValue := 0 }, { name := "ERROR", type := .int, accessFlags := 24, slot := 35, constantValue := 0 }, { name := "DIRECTIONALITY_UNDEFINED", type := .byte, accessFlags := 25, slot := 36, constantValue := 0 }, { name := "DIRECTIONALITY_LEFT_TO_RIGHT", type := .byte, accessFlags := 25, slot := 37, constantValue := 0 }, { name := "DIRECTIONALITY_RIGHT_TO_LEFT", type := .byte, accessFlags := 25, slot := 38, constantValue := 0 }, { name := "DIRECTIONALITY_RIGHT_TO_LEFT_ARABIC", type := .byte, accessFlags := 25, slot := 39, constantValue := 0 }, { name := "DIRECTIONALITY_EUROPEAN_NUMBER", type := .byte, accessFlags := 25, slot := 40, constantValue := 0 }, { name := "DIRECTIONALITY_EUROPEAN_NUMBER_SEPARATOR", type := .byte, accessFlags := 25, slot := 41, constantValue := 0 }, { name := "DIRECTIONALITY_EUROPEAN_NUMBER_TERMINATOR", type := .byte, accessFlags := 25, slot := 42, constantValue := 0 }, { name := "DIRECTIONALITY_ARABIC_NUMBER", type := .byte, accessFlags := 25, slot := 43, constantValue := 0 }, { name := "DIRECTIONALITY_COMMON_NUMBER_SEPARATOR", type := .byte, accessFlags := 25, slot := 44, constantValue := 0 }, { name := "DIRECTIONALITY_NONSPACING_MARK", type := .byte, accessFlags := 25, slot := 45, constantValue := 0 }, { name := "DIRECTIONALITY_BOUNDARY_NEUTRAL", type := .byte, accessFlags := 25, slot := 46, constantValue := 0 }, { name := "DIRECTIONALITY_PARAGRAPH_SEPARATOR", type := .byte, accessFlags := 25, slot := 47, constantValue := 0 }, { name := "DIRECTIONALITY_SEGMENT_SEPARATOR", type := .byte, accessFlags := 25, slot := 48, constantValue := 0 }, { name := "DIRECTIONALITY_WHITESPACE", type := .byte, accessFlags := 25, slot := 49, constantValue := 0 }, { name := "DIRECTIONALITY_OTHER_NEUTRALS", type := .byte, accessFlags := 25, slot := 50, constantValue := 0 }, { name := "DIRECTIONALITY_LEFT_TO_RIGHT_EMBEDDING", type := .byte, accessFlags := 25, slot := 51, constantValue := 0 }, { name := "DIRECTIONALITY_LEFT_TO_RIGHT_OVERRIDE", type := .byte, accessFlags := 25, slot := 52, constantValue := 0 }, { name := "DIRECTIONALITY_RIGHT_TO_LEFT_EMBEDDING", type := .byte, accessFlags := 25, slot := 53, constantValue := 0 }, { name := "DIRECTIONALITY_RIGHT_TO_LEFT_OVERRIDE", type := .byte, accessFlags := 25, slot := 54, constantValue := 0 }, { name := "DIRECTIONALITY_POP_DIRECTIONAL_FORMAT", type := .byte, accessFlags := 25, slot := 55, constantValue := 0 }, { name := "DIRECTIONALITY_LEFT_TO_RIGHT_ISOLATE", type := .byte, accessFlags := 25, slot := 56, constantValue := 0 }, { name := "DIRECTIONALITY_RIGHT_TO_LEFT_ISOLATE", type := .byte, accessFlags := 25, slot := 57, constantValue := 0 }, { name := "DIRECTIONALITY_FIRST_STRONG_ISOLATE", type := .byte, accessFlags := 25, slot := 58, constantValue := 0 }, { name := "DIRECTIONALITY_POP_DIRECTIONAL_ISOLATE", type := .byte, accessFlags := 25, slot := 59, constantValue := 0 }, { name := "MIN_HIGH_SURROGATE", type := .char, accessFlags := 25, slot := 60, constantValue := 0 }, { name := "MAX_HIGH_SURROGATE", type := .char, accessFlags := 25, slot := 61, constantValue := 0 }, { name := "MIN_LOW_SURROGATE", type := .char, accessFlags := 25, slot := 62, constantValue := 0 }, { name := "MAX_LOW_SURROGATE", type := .char, accessFlags := 25, slot := 63, constantValue := 0 }, { name := "MIN_SURROGATE", type := .char, accessFlags := 25, slot := 64, constantValue := 0 }, { name := "MAX_SURROGATE", type := .char, accessFlags := 25, slot := 65, constantValue := 0 }, { name := "MIN_SUPPLEMENTARY_CODE_POINT", type := .int, accessFlags := 25, slot := 66, constantValue := 0 }, { name := "MIN_CODE_POINT", type := .int, accessFlags := 25, slot := 67, constantValue := 0 }, { name := "MAX_CODE_POINT", type := .int, accessFlags := 25, slot := 68, constantValue := 0 }, { name := "value", type := .char, accessFlags := 18, slot := 0, constantValue := 0 }, { name := "serialVersionUID", type := .long, accessFlags := 26, slot := 69, constantValue := 0 }, { name := "SIZE", type := .int, accessFlags := 25, slot := 70, constantValue := 0 }, { name := "BYTES", type := .int, accessFlags := 25, slot := 71, constantValue := 0 }, { name := "$assertionsDisabled", type := .boolean, accessFlags := 4120, slot := 72, constantValue := 0 }]
  methods := #[k14m0, k14m1, k14m2, k14m3]
  instanceTypes := #[.char]
  staticTypes := #[.int, .int, .char, .char, (.object "java/lang/Class"), .byte, .byte, .byte, .byte, .byte, .byte, .byte, .byte, .byte, .byte, .byte, .byte, .byte, .byte, .byte, .byte, .byte, .byte, .byte, .byte, .byte, .byte, .byte, .byte, .byte, .byte, .byte, .byte, .byte, .byte, .int, .byte, .byte, .byte, .byte, .byte, .byte, .byte, .byte, .byte, .byte, .byte, .byte, .byte, .byte, .byte, .byte, .byte, .byte, .byte, .byte, .byte, .byte, .byte, .byte, .char, .char, .char, .char, .char, .char, .int, .int, .int, .long, .int, .int, .boolean]
  resolved := Array.replicate 604 none
  statics := none }

def pool15 : Array CpInfo := pool [(4, .class_ 6), (1, u "java/lang/Object"), (0, u "<init>"), (0, u "()V"), (5, .class_ 16), (1, u "java/lang/StringLatin1"), (104, u "$assertionsDisabled"), (0, u "Z"), (98, .class_ 223), (1, u "java/lang/StringLatin1$LinesSpliterator"), (166, .class_ 391), (0, u "java/lang/StringLatin1$CharsSpliterator")] 3

def k15m0 : Method := { name := "<init>", desc := "()V", sig := { parameters := [], returnType := none }, accessFlags := 0, code := none }
/-- java/lang/StringLatin1 -/
def k15 : Class := { plain "java/lang/StringLatin1" (some 0) with
  accessFlags := 48
  interfaces := #[]
  cf := some (fileOf pool15 14 #[.nestMembers #[390, 221]] #[{ accessFlags := 0, nameIndex := 7, descriptorIndex := 8, attributes := #[] }] 48 4 #[] #[{ accessFlags := 4120, nameIndex := 121, descriptorIndex := 122, attributes := #[] }])
  fields := #[{ name := "$assertionsDisabled", type := .boolean, accessFlags := 4120, slot := 0, constantValue := 0 }]
  methods := #[k15m0]
  instanceTypes := #[]
  staticTypes := #[.boolean]
  resolved := Array.replicate 395 none
  statics := none }

def pool16 : Array CpInfo := pool [(9, u "<init>"), (6, .class_ 18), (1, u "java/lang/Object"), (0, u "()V"), (1, .class_ 23), (1, u "jdk/internal/util/ArraysSupport"), (0, u "LOG2_ARRAY_LONG_INDEX_SCALE"), (0, u "I"), (2, u "U"), (0, u "Ljdk/internal/misc/Unsafe;"), (8, u "BIG_ENDIAN"), (0, u "Z"), (8, u "LOG2_BYTE_BIT_SIZE"), (4, u "LOG2_ARRAY_INT_INDEX_SCALE"), (54, u "JLA"), (0, u "Ljdk/internal/access/JavaLangAccess;"), (11, u "LOG2_ARRAY_BOOLEAN_INDEX_SCALE"), (9, u "LOG2_ARRAY_BYTE_INDEX_SCALE"), (5, u "LOG2_ARRAY_CHAR_INDEX_SCALE"), (5, u "LOG2_ARRAY_SHORT_INDEX_SCALE"), (18, u "LOG2_ARRAY_FLOAT_INDEX_SCALE"), (24, u "LOG2_ARRAY_DOUBLE_INDEX_SCALE"), (89, u "T_BOOLEAN"), (2, u "T_CHAR"), (1, u "T_FLOAT"), (1, u "T_DOUBLE"), (1, u "T_BYTE"), (1, u "T_SHORT"), (1, u "T_INT"), (1, u "T_LONG"), (1, u "SOFT_MAX_ARRAY_LENGTH")] 83

def k16m0 : Method := { name := "<init>", desc := "()V", sig := { parameters := [], returnType := none }, accessFlags := 2, code := none }
/-- jdk/internal/util/ArraysSupport -/
def k16 : Class := { plain "jdk/internal/util/ArraysSupport" (some 0) with
  accessFlags := 33
  interfaces := #[]
  cf := some (fileOf pool16 21 #[] #[{ accessFlags := 2, nameIndex := 9, descriptorIndex := 19, attributes := #[] }] 33 16 #[] #[{ accessFlags := 24, nameIndex := 28, descriptorIndex := 29, attributes := #[] }, { accessFlags := 26, nameIndex := 38, descriptorIndex := 39, attributes := #[] }, { accessFlags := 25, nameIndex := 121, descriptorIndex := 25, attributes := #[] }, { accessFlags := 25, nameIndex := 131, descriptorIndex := 25, attributes := #[] }, { accessFlags := 25, nameIndex := 137, descriptorIndex := 25, attributes := #[] }, { accessFlags := 25, nameIndex := 143, descriptorIndex := 25, attributes := #[] }, { accessFlags := 25, nameIndex := 53, descriptorIndex := 25, attributes := #[] }, { accessFlags := 25, nameIndex := 24, descriptorIndex := 25, attributes := #[] }, { accessFlags := 25, nameIndex := 162, descriptorIndex := 25, attributes := #[] }, { accessFlags := 25, nameIndex := 187, descriptorIndex := 25, attributes := #[] }, { accessFlags := 26, nameIndex := 48, descriptorIndex := 25, attributes := #[] }, { accessFlags := 25, nameIndex := 277, descriptorIndex := 25, attributes := #[] }, { accessFlags := 25, nameIndex := 280, descriptorIndex := 25, attributes := #[] }, { accessFlags := 25, nameIndex := 282, descriptorIndex := 25, attributes := #[] }, { accessFlags := 25, nameIndex := 284, descriptorIndex := 25, attributes := #[] }, { accessFlags := 25, nameIndex := 286, descriptorIndex := 25, attributes := #[] }, { accessFlags := 25, nameIndex := 288, descriptorIndex := 25, attributes := #[] }, { accessFlags := 25, nameIndex := 290, descriptorIndex := 25, attributes := #[] }, { accessFlags := 25, nameIndex := 292, descriptorIndex := 25, attributes := #[] }, { accessFlags := 26, nameIndex := 108, descriptorIndex := 109, attributes := #[] }, { accessFlags := 25, nameIndex := 294, descriptorIndex := 25, attributes := #[] }])
  fields := #[{ name := "U", type := (.object "jdk/internal/misc/Unsafe"), accessFlags := 24, slot := 0, constantValue := 0 }, { name := "BIG_ENDIAN", type := .boolean, accessFlags := 26, slot := 1, constantValue := 0 }, { name := "LOG2_ARRAY_BOOLEAN_INDEX_SCALE", type := .int, accessFlags := 25, slot := 2, constantValue := 0 }, { name := "LOG2_ARRAY_BYTE_INDEX_SCALE", type := .int, accessFlags := 25, slot := 3, constantValue := 0 }, { name := "LOG2_ARRAY_CHAR_INDEX_SCALE", type := .int, accessFlags := 25, slot := 4, constantValue := 0 }, { name := "LOG2_ARRAY_SHORT_INDEX_SCALE", type := .int, accessFlags := 25, slot := 5, constantValue := 0 }, { name := "LOG2_ARRAY_INT_INDEX_SCALE", type := .int, accessFlags := 25, slot := 6, constantValue := 0 }, { name := "LOG2_ARRAY_LONG_INDEX_SCALE", type := .int, accessFlags := 25, slot := 7, constantValue := 0 }, { name := "LOG2_ARRAY_FLOAT_INDEX_SCALE", type := .int, accessFlags := 25, slot := 8, constantValue := 0 }, { name := "LOG2_ARRAY_DOUBLE_INDEX_SCALE", type := .int, accessFlags := 25, slot := 9, constantValue := 0 }, { name := "LOG2_BYTE_BIT_SIZE", type := .int, accessFlags := 26, slot := 10, constantValue := 0 }, { name := "T_BOOLEAN", type := .int, accessFlags := 25, slot := 11, constantValue := 0 }, { name := "T_CHAR", type := .int, accessFlags := 25, slot := 12, constantValue := 0 }, { name := "T_FLOAT", type := .int, accessFlags := 25, slot := 13, constantValue := 0 }, { name := "T_DOUBLE", type := .int, accessFlags := 25, slot := 14, constantValue := 0 }, { name := "T_BYTE", type := .int, accessFlags := 25, slot := 15, constantValue := 0 }, { name := "T_SHORT", type := .int, accessFlags := 25, slot := 16, constantValue := 0 }, { name := "T_INT", type := .int, accessFlags := 25, slot := 17, constantValue := 0 }, { name := "T_LONG", type := .int, accessFlags := 25, slot := 18, constantValue := 0 }, { name := "JLA", type := (.object "jdk/internal/access/JavaLangAccess"), accessFlags := 26, slot := 19, constantValue := 0 }, { name := "SOFT_MAX_ARRAY_LENGTH", type := .int, accessFlags := 25, slot := 20, constantValue := 0 }]
  methods := #[k16m0]
  instanceTypes := #[]
  staticTypes := #[(.object "jdk/internal/misc/Unsafe"), .boolean, .int, .int, .int, .int, .int, .int, .int, .int, .int, .int, .int, .int, .int, .int, .int, .int, .int, (.object "jdk/internal/access/JavaLangAccess"), .int]
  resolved := Array.replicate 378 none
  statics := none }

def pool17 : Array CpInfo := pool [(1, u "java/lang/Cloneable"), (0, .class_ 1), (0, u "java/lang/Object"), (0, .class_ 3)] 3

/-- java/lang/Cloneable -/
def k17 : Class := { plain "java/lang/Cloneable" (some 0) with
  accessFlags := 1537
  interfaces := #[]
  cf := some (fileOf pool17 2 #[] #[] 1537 4 #[] #[])
  fields := #[]
  methods := #[]
  instanceTypes := #[]
  staticTypes := #[]
  resolved := Array.replicate 8 none
  statics := none }

/-- the primitive byte -/
def k18 : Class := { plain "byte" none with kind := .primitive 'B', accessFlags := 0x411 }
/-- [B -/
def k19 : Class := { plain "[B" (some 0) with kind := .array 18 .byte, interfaces := #[17, 2], accessFlags := 1041 }

/-- the primitive char -/
def k20 : Class := { plain "char" none with kind := .primitive 'C', accessFlags := 0x411 }
/-- [C -/
def k21 : Class := { plain "[C" (some 0) with kind := .array 20 .char, interfaces := #[17, 2], accessFlags := 1041 }

/-- the primitive int -/
def k22 : Class := { plain "int" none with kind := .primitive 'I', accessFlags := 0x411 }
/-- [I -/
def k23 : Class := { plain "[I" (some 0) with kind := .array 22 .int, interfaces := #[17, 2], accessFlags := 1041 }

def heap : Heap := #[{ cls := 7, slots := #[.long 0, .int 1, .null, .int 0, .null, .int 0, .int 0], vm := .statics 7 },
  { cls := 12, slots := #[.int 0, .int 8, .int 0, .int 1], vm := .statics 12 },
  { cls := 13, slots := #[.null, .null, .null], vm := .statics 13 }]
def classes : Array Class := #[k0, k1, k2, k3, k4, k5, k6, k7, k8, k9, k10, k11, k12, k13, k14, k15, k16, k17, k18, k19, k20, k21, k22, k23]
def interned : List (Array UInt16 × Addr) := []
def slotsUsed : Nat := 14
def theMethod : MethodId := ⟨1, 1⟩
def args0 : Array Value := #[.int 5, .int 5, .int 5, .int 5, .int 5]
def aboutOver (below : List Frame) : State where
  vm := { classes := classes, interned := interned.toArray }
  heap := heap
  slotsUsed := slotsUsed
  threads := #[{ frames := .invoking theMethod args0 :: below }]
def below0 : List Frame := [.native { method := ⟨0, 0⟩, args := #[] }]
def about1 : State := aboutOver below0
def p0 : Program := .bare "" "" ""
def e0 : Env := launch0.env 0 0 0
theorem w_frames : about1.frames = Frame.invoking theMethod args0 :: below0 := rfl
set_option maxRecDepth 65536 in
theorem w_args : argsFit about1.vm theMethod args0 = true := by decide +kernel
set_option maxRecDepth 65536 in
theorem w_heap : heapFits about1 = true := by decide +kernel
set_option maxRecDepth 65536 in
theorem w_runnable : about1.curStatus? = some .runnable := by decide +kernel
set_option maxRecDepth 65536 in
theorem w_alone : about1.alone = true := by decide +kernel
set_option maxRecDepth 65536 in
theorem w_named : about1.methodNamed? x = some theMethod := by decide +kernel
set_option maxRecDepth 65536 in
theorem w_hears : about1.hears theMethod below0 = true := by decide +kernel
set_option maxRecDepth 65536 in
theorem w_ripe : about1.ripe theMethod args0 below0 = true := by decide +kernel
theorem w_running : about1.status = .running := rfl
set_option maxRecDepth 65536 in
theorem w_room : about1.hasRoom e0.platform room_1 = true :=
  launch0.hasRoom_least _ room_1 (by decide +kernel) (by decide +kernel) (by decide +kernel) (by decide +kernel) (by decide +kernel) (by decide +kernel)
theorem allAtoms_all (ts : List Jvm.Cond) (a : Array Jvm.Value) (st : Jvm.State) : (allAtoms ts).before a st = ts.all (fun c => c.before a st) := by
  induction ts with
  | nil => rfl
  | cons c t ih =>
    show (Jvm.Cond.and c (allAtoms t)).before a st = _
    rw [Jvm.Cond.before_and, ih, List.all_cons]
def words1 : List Jvm.Cond := Jvm.Cond.code x code maxLocals ret :: tables_1
/-- a 'code' word, met by the world's own term for the bytes: nothing is compared byte by byte -/
theorem code_word {y : MethodName} {bytes : ByteArray} {mx : Nat} {rt : Option FieldType} {a : Array Value} {s : State} {m : MethodId} {meth : Method} {c : Code} (h1 : s.methodNamed? y = some m) (h2 : s.vm.method? m = some meth) (h3 : meth.code = some c) (h4 : c.code = bytes)
    (h5 : (c.maxLocals == mx && c.exceptionTable.isEmpty && decide (c.maxStack ≤ mostOperands) && decide (meth.sig.returnType = rt) && !meth.locks && decide (parseMethodDescriptor y.desc = some meth.sig)) = true) : (Jvm.Cond.code y bytes mx rt).before a s = true := by
  simp only [Bool.and_eq_true, beq_iff_eq, Bool.not_eq_true', decide_eq_true_eq] at h5
  obtain ⟨⟨⟨⟨⟨g1, g2⟩, g3⟩, g4⟩, g5⟩, g6⟩ := h5
  simp [Cond.before, Cond.holds, Cond.value, h1, h2, h3, h4, g1, g2, g3, g4, g5, g6]
def isCode : Jvm.Cond → Bool
  | .code _ _ _ _ => true
  | _ => false
theorem all_split {L : List Jvm.Cond} {P : Jvm.Cond → Bool} (h1 : L.all (fun c => isCode c || P c) = true) (h2 : ∀ c ∈ L.filter isCode, P c = true) : L.all P = true := by
  refine List.all_eq_true.mpr fun c hc => ?_
  have h := List.all_eq_true.mp h1 c hc
  rcases Bool.eq_false_or_eq_true (isCode c) with hi | hi
  · exact h2 c (List.mem_filter.mpr ⟨hc, hi⟩)
  · simpa [hi] using h
set_option maxRecDepth 65536 in
theorem w_c0 : (Jvm.Cond.code x code maxLocals ret).before args0 about1 = true := code_word (m := ⟨1, 1⟩) (meth := k1m1) (c := k1c1) (by decide +kernel) rfl rfl rfl (by decide +kernel)
set_option maxRecDepth 65536 in
theorem w_c1 : (Jvm.Cond.code ({ cls := "com/example/broker/broker/Utf8OrderComparePinLaw", name := "shape", desc := "(CI)C" } : Jvm.MethodName) method_3_code (2 : Nat) (Option.some Jvm.ClassFile.FieldType.char)).before args0 about1 = true := code_word (m := ⟨1, 2⟩) (meth := k1m2) (c := k1c2) (by decide +kernel) rfl rfl rfl (by decide +kernel)
set_option maxRecDepth 65536 in
theorem w_c2 : (Jvm.Cond.code ({ cls := "com/example/broker/broker/Utf8OrderComparePinLaw", name := "str", desc := "(CCCI)Ljava/lang/String;" } : Jvm.MethodName) method_4_code (4 : Nat) (Option.some (Jvm.ClassFile.FieldType.object "java/lang/String"))).before args0 about1 = true := code_word (m := ⟨1, 3⟩) (meth := k1m3) (c := k1c3) (by decide +kernel) rfl rfl rfl (by decide +kernel)
set_option maxRecDepth 65536 in
theorem w_c3 : (Jvm.Cond.code ({ cls := "java/lang/String", name := "<init>", desc := "([C)V" } : Jvm.MethodName) jdk_42_method_3_code (2 : Nat) (Option.none : Option Jvm.ClassFile.FieldType)).before args0 about1 = true := code_word (m := ⟨7, 1⟩) (meth := k7m1) (c := k7c1) (by decide +kernel) rfl rfl rfl (by decide +kernel)
set_option maxRecDepth 65536 in
theorem w_c4 : (Jvm.Cond.code ({ cls := "java/lang/String", name := "<init>", desc := "([CIILjava/lang/Void;)V" } : Jvm.MethodName) jdk_42_method_149_code (6 : Nat) (Option.none : Option Jvm.ClassFile.FieldType)).before args0 about1 = true := code_word (m := ⟨7, 4⟩) (meth := k7m4) (c := k7c4) (by decide +kernel) rfl rfl rfl (by decide +kernel)
set_option maxRecDepth 65536 in
theorem w_c5 : (Jvm.Cond.code ({ cls := "java/lang/Object", name := "<init>", desc := "()V" } : Jvm.MethodName) object_method_1_code (1 : Nat) (Option.none : Option Jvm.ClassFile.FieldType)).before args0 about1 = true := code_word (m := ⟨0, 0⟩) (meth := k0m0) (c := k0c0) (by decide +kernel) rfl rfl rfl (by decide +kernel)
set_option maxRecDepth 65536 in
theorem w_c6 : (Jvm.Cond.code ({ cls := "com/example/broker/broker/Utf8OrderComparePinLaw", name := "points", desc := "(CCCI)[I" } : Jvm.MethodName) method_7_code (10 : Nat) (Option.some (Jvm.ClassFile.FieldType.array Jvm.ClassFile.FieldType.int))).before args0 about1 = true := code_word (m := ⟨1, 6⟩) (meth := k1m6) (c := k1c6) (by decide +kernel) rfl rfl rfl (by decide +kernel)
set_option maxRecDepth 65536 in
theorem w_c7 : (Jvm.Cond.code ({ cls := "com/example/broker/broker/Utf8OrderComparePinLaw", name := "point", desc := "([CII)I" } : Jvm.MethodName) method_5_code (5 : Nat) (Option.some Jvm.ClassFile.FieldType.int)).before args0 about1 = true := code_word (m := ⟨1, 4⟩) (meth := k1m4) (c := k1c4) (by decide +kernel) rfl rfl rfl (by decide +kernel)
set_option maxRecDepth 65536 in
theorem w_c8 : (Jvm.Cond.code ({ cls := "com/example/broker/broker/Utf8OrderComparePinLaw", name := "cmp", desc := "(II)I" } : Jvm.MethodName) method_8_code (2 : Nat) (Option.some Jvm.ClassFile.FieldType.int)).before args0 about1 = true := code_word (m := ⟨1, 7⟩) (meth := k1m7) (c := k1c7) (by decide +kernel) rfl rfl rfl (by decide +kernel)
set_option maxRecDepth 65536 in
theorem w_c9 : (Jvm.Cond.code ({ cls := "com/example/broker/broker/Utf8Order", name := "compare", desc := "(Ljava/lang/String;Ljava/lang/String;)I" } : Jvm.MethodName) prog_29_method_2_code (6 : Nat) (Option.some Jvm.ClassFile.FieldType.int)).before args0 about1 = true := code_word (m := ⟨8, 1⟩) (meth := k8m1) (c := k8c1) (by decide +kernel) rfl rfl rfl (by decide +kernel)
set_option maxRecDepth 65536 in
theorem w_c10 : (Jvm.Cond.code ({ cls := "java/lang/String", name := "length", desc := "()I" } : Jvm.MethodName) jdk_42_method_54_code (1 : Nat) (Option.some Jvm.ClassFile.FieldType.int)).before args0 about1 = true := code_word (m := ⟨7, 2⟩) (meth := k7m2) (c := k7c2) (by decide +kernel) rfl rfl rfl (by decide +kernel)
set_option maxRecDepth 65536 in
theorem w_c11 : (Jvm.Cond.code ({ cls := "java/lang/String", name := "coder", desc := "()B" } : Jvm.MethodName) jdk_42_method_152_code (1 : Nat) (Option.some Jvm.ClassFile.FieldType.byte)).before args0 about1 = true := code_word (m := ⟨7, 5⟩) (meth := k7m5) (c := k7c5) (by decide +kernel) rfl rfl rfl (by decide +kernel)
set_option maxRecDepth 65536 in
theorem w_c12 : (Jvm.Cond.code ({ cls := "java/lang/Math", name := "min", desc := "(II)I" } : Jvm.MethodName) jdk_29_method_69_code (2 : Nat) (Option.some Jvm.ClassFile.FieldType.int)).before args0 about1 = true := code_word (m := ⟨9, 1⟩) (meth := k9m1) (c := k9c1) (by decide +kernel) rfl rfl rfl (by decide +kernel)
set_option maxRecDepth 65536 in
theorem w_c13 : (Jvm.Cond.code ({ cls := "java/lang/Integer", name := "compare", desc := "(II)I" } : Jvm.MethodName) jdk_33_method_40_code (2 : Nat) (Option.some Jvm.ClassFile.FieldType.int)).before args0 about1 = true := code_word (m := ⟨11, 0⟩) (meth := k11m0) (c := k11c0) (by decide +kernel) rfl rfl rfl (by decide +kernel)
set_option maxRecDepth 65536 in
theorem w_c14 : (Jvm.Cond.code ({ cls := "java/lang/StringUTF16", name := "compress", desc := "([CII)[B" } : Jvm.MethodName) jdk_52_method_16_code (6 : Nat) (Option.some (Jvm.ClassFile.FieldType.array Jvm.ClassFile.FieldType.byte))).before args0 about1 = true := code_word (m := ⟨12, 9⟩) (meth := k12m9) (c := k12c9) (by decide +kernel) rfl rfl rfl (by decide +kernel)
set_option maxRecDepth 65536 in
theorem w_c15 : (Jvm.Cond.code ({ cls := "java/lang/StringUTF16", name := "compress", desc := "([CI[BII)I" } : Jvm.MethodName) jdk_52_method_21_code (7 : Nat) (Option.some Jvm.ClassFile.FieldType.int)).before args0 about1 = true := code_word (m := ⟨12, 10⟩) (meth := k12m10) (c := k12c10) (by decide +kernel) rfl rfl rfl (by decide +kernel)
set_option maxRecDepth 65536 in
theorem w_c16 : (Jvm.Cond.code ({ cls := "java/lang/StringUTF16", name := "coderFromArrayLen", desc := "([BI)B" } : Jvm.MethodName) jdk_52_method_15_code (2 : Nat) (Option.some Jvm.ClassFile.FieldType.byte)).before args0 about1 = true := code_word (m := ⟨12, 8⟩) (meth := k12m8) (c := k12c8) (by decide +kernel) rfl rfl rfl (by decide +kernel)
set_option maxRecDepth 65536 in
theorem w_c17 : (Jvm.Cond.code ({ cls := "com/example/broker/broker/Utf8OrderComparePinLaw", name := "width", desc := "(I)I" } : Jvm.MethodName) method_6_code (1 : Nat) (Option.some Jvm.ClassFile.FieldType.int)).before args0 about1 = true := code_word (m := ⟨1, 5⟩) (meth := k1m5) (c := k1c5) (by decide +kernel) rfl rfl rfl (by decide +kernel)
set_option maxRecDepth 65536 in
theorem w_c18 : (Jvm.Cond.code ({ cls := "java/lang/String", name := "codePointAt", desc := "(I)I" } : Jvm.MethodName) jdk_42_method_57_code (3 : Nat) (Option.some Jvm.ClassFile.FieldType.int)).before args0 about1 = true := code_word (m := ⟨7, 3⟩) (meth := k7m3) (c := k7c3) (by decide +kernel) rfl rfl rfl (by decide +kernel)
set_option maxRecDepth 65536 in
theorem w_c19 : (Jvm.Cond.code ({ cls := "java/lang/String", name := "isLatin1", desc := "()Z" } : Jvm.MethodName) jdk_42_method_154_code (1 : Nat) (Option.some Jvm.ClassFile.FieldType.boolean)).before args0 about1 = true := code_word (m := ⟨7, 6⟩) (meth := k7m6) (c := k7c6) (by decide +kernel) rfl rfl rfl (by decide +kernel)
set_option maxRecDepth 65536 in
theorem w_c20 : (Jvm.Cond.code ({ cls := "java/lang/String", name := "checkIndex", desc := "(II)V" } : Jvm.MethodName) jdk_42_method_155_code (2 : Nat) (Option.none : Option Jvm.ClassFile.FieldType)).before args0 about1 = true := code_word (m := ⟨7, 7⟩) (meth := k7m7) (c := k7c7) (by decide +kernel) rfl rfl rfl (by decide +kernel)
set_option maxRecDepth 65536 in
theorem w_c21 : (Jvm.Cond.code ({ cls := "jdk/internal/util/Preconditions", name := "checkIndex", desc := "(IILjava/util/function/BiFunction;)I" } : Jvm.MethodName) jdk_41_method_11_code (3 : Nat) (Option.some Jvm.ClassFile.FieldType.int)).before args0 about1 = true := code_word (m := ⟨13, 1⟩) (meth := k13m1) (c := k13c1) (by decide +kernel) rfl rfl rfl (by decide +kernel)
set_option maxRecDepth 65536 in
theorem w_c22 : (Jvm.Cond.code ({ cls := "java/lang/StringUTF16", name := "toBytes", desc := "([CII)[B" } : Jvm.MethodName) jdk_52_method_14_code (5 : Nat) (Option.some (Jvm.ClassFile.FieldType.array Jvm.ClassFile.FieldType.byte))).before args0 about1 = true := code_word (m := ⟨12, 7⟩) (meth := k12m7) (c := k12c7) (by decide +kernel) rfl rfl rfl (by decide +kernel)
set_option maxRecDepth 65536 in
theorem w_c23 : (Jvm.Cond.code ({ cls := "java/lang/StringUTF16", name := "newBytesFor", desc := "(I)[B" } : Jvm.MethodName) jdk_52_method_2_code (1 : Nat) (Option.some (Jvm.ClassFile.FieldType.array Jvm.ClassFile.FieldType.byte))).before args0 about1 = true := code_word (m := ⟨12, 1⟩) (meth := k12m1) (c := k12c1) (by decide +kernel) rfl rfl rfl (by decide +kernel)
set_option maxRecDepth 65536 in
theorem w_c24 : (Jvm.Cond.code ({ cls := "java/lang/StringUTF16", name := "newBytesLength", desc := "(I)I" } : Jvm.MethodName) jdk_52_method_3_code (1 : Nat) (Option.some Jvm.ClassFile.FieldType.int)).before args0 about1 = true := code_word (m := ⟨12, 2⟩) (meth := k12m2) (c := k12c2) (by decide +kernel) rfl rfl rfl (by decide +kernel)
set_option maxRecDepth 65536 in
theorem w_c25 : (Jvm.Cond.code ({ cls := "java/lang/StringUTF16", name := "putChar", desc := "([BII)V" } : Jvm.MethodName) jdk_52_method_4_code (3 : Nat) (Option.none : Option Jvm.ClassFile.FieldType)).before args0 about1 = true := code_word (m := ⟨12, 3⟩) (meth := k12m3) (c := k12c3) (by decide +kernel) rfl rfl rfl (by decide +kernel)
set_option maxRecDepth 65536 in
theorem w_c26 : (Jvm.Cond.code ({ cls := "java/lang/StringUTF16", name := "getChar", desc := "([BI)C" } : Jvm.MethodName) jdk_52_method_5_code (2 : Nat) (Option.some Jvm.ClassFile.FieldType.char)).before args0 about1 = true := code_word (m := ⟨12, 4⟩) (meth := k12m4) (c := k12c4) (by decide +kernel) rfl rfl rfl (by decide +kernel)
set_option maxRecDepth 65536 in
theorem w_c27 : (Jvm.Cond.code ({ cls := "java/lang/StringUTF16", name := "codePointAt", desc := "([BII)I" } : Jvm.MethodName) jdk_52_method_8_code (3 : Nat) (Option.some Jvm.ClassFile.FieldType.int)).before args0 about1 = true := code_word (m := ⟨12, 6⟩) (meth := k12m6) (c := k12c6) (by decide +kernel) rfl rfl rfl (by decide +kernel)
set_option maxRecDepth 65536 in
theorem w_c28 : (Jvm.Cond.code ({ cls := "java/lang/StringUTF16", name := "codePointAt", desc := "([BIIZ)I" } : Jvm.MethodName) jdk_52_method_7_code (6 : Nat) (Option.some Jvm.ClassFile.FieldType.int)).before args0 about1 = true := code_word (m := ⟨12, 5⟩) (meth := k12m5) (c := k12c5) (by decide +kernel) rfl rfl rfl (by decide +kernel)
set_option maxRecDepth 65536 in
theorem w_c29 : (Jvm.Cond.code ({ cls := "java/lang/Character", name := "isHighSurrogate", desc := "(C)Z" } : Jvm.MethodName) jdk_89_method_14_code (1 : Nat) (Option.some Jvm.ClassFile.FieldType.boolean)).before args0 about1 = true := code_word (m := ⟨14, 0⟩) (meth := k14m0) (c := k14c0) (by decide +kernel) rfl rfl rfl (by decide +kernel)
set_option maxRecDepth 65536 in
theorem w_c30 : (Jvm.Cond.code ({ cls := "java/lang/Character", name := "charCount", desc := "(I)I" } : Jvm.MethodName) jdk_89_method_18_code (1 : Nat) (Option.some Jvm.ClassFile.FieldType.int)).before args0 about1 = true := code_word (m := ⟨14, 2⟩) (meth := k14m2) (c := k14c2) (by decide +kernel) rfl rfl rfl (by decide +kernel)
set_option maxRecDepth 65536 in
theorem w_c31 : (Jvm.Cond.code ({ cls := "java/lang/Character", name := "isLowSurrogate", desc := "(C)Z" } : Jvm.MethodName) jdk_89_method_15_code (1 : Nat) (Option.some Jvm.ClassFile.FieldType.boolean)).before args0 about1 = true := code_word (m := ⟨14, 1⟩) (meth := k14m1) (c := k14c1) (by decide +kernel) rfl rfl rfl (by decide +kernel)
set_option maxRecDepth 65536 in
theorem w_c32 : (Jvm.Cond.code ({ cls := "java/lang/Character", name := "toCodePoint", desc := "(CC)I" } : Jvm.MethodName) jdk_89_method_19_code (2 : Nat) (Option.some Jvm.ClassFile.FieldType.int)).before args0 about1 = true := code_word (m := ⟨14, 3⟩) (meth := k14m3) (c := k14c3) (by decide +kernel) rfl rfl rfl (by decide +kernel)
def codes1 : List Jvm.Cond := [Jvm.Cond.code x code maxLocals ret, Jvm.Cond.code ({ cls := "com/example/broker/broker/Utf8OrderComparePinLaw", name := "shape", desc := "(CI)C" } : Jvm.MethodName) method_3_code (2 : Nat) (Option.some Jvm.ClassFile.FieldType.char), Jvm.Cond.code ({ cls := "com/example/broker/broker/Utf8OrderComparePinLaw", name := "str", desc := "(CCCI)Ljava/lang/String;" } : Jvm.MethodName) method_4_code (4 : Nat) (Option.some (Jvm.ClassFile.FieldType.object "java/lang/String")), Jvm.Cond.code ({ cls := "java/lang/String", name := "<init>", desc := "([C)V" } : Jvm.MethodName) jdk_42_method_3_code (2 : Nat) (Option.none : Option Jvm.ClassFile.FieldType), Jvm.Cond.code ({ cls := "java/lang/String", name := "<init>", desc := "([CIILjava/lang/Void;)V" } : Jvm.MethodName) jdk_42_method_149_code (6 : Nat) (Option.none : Option Jvm.ClassFile.FieldType), Jvm.Cond.code ({ cls := "java/lang/Object", name := "<init>", desc := "()V" } : Jvm.MethodName) object_method_1_code (1 : Nat) (Option.none : Option Jvm.ClassFile.FieldType), Jvm.Cond.code ({ cls := "com/example/broker/broker/Utf8OrderComparePinLaw", name := "points", desc := "(CCCI)[I" } : Jvm.MethodName) method_7_code (10 : Nat) (Option.some (Jvm.ClassFile.FieldType.array Jvm.ClassFile.FieldType.int)), Jvm.Cond.code ({ cls := "com/example/broker/broker/Utf8OrderComparePinLaw", name := "point", desc := "([CII)I" } : Jvm.MethodName) method_5_code (5 : Nat) (Option.some Jvm.ClassFile.FieldType.int), Jvm.Cond.code ({ cls := "com/example/broker/broker/Utf8OrderComparePinLaw", name := "cmp", desc := "(II)I" } : Jvm.MethodName) method_8_code (2 : Nat) (Option.some Jvm.ClassFile.FieldType.int), Jvm.Cond.code ({ cls := "com/example/broker/broker/Utf8Order", name := "compare", desc := "(Ljava/lang/String;Ljava/lang/String;)I" } : Jvm.MethodName) prog_29_method_2_code (6 : Nat) (Option.some Jvm.ClassFile.FieldType.int), Jvm.Cond.code ({ cls := "java/lang/String", name := "length", desc := "()I" } : Jvm.MethodName) jdk_42_method_54_code (1 : Nat) (Option.some Jvm.ClassFile.FieldType.int), Jvm.Cond.code ({ cls := "java/lang/String", name := "coder", desc := "()B" } : Jvm.MethodName) jdk_42_method_152_code (1 : Nat) (Option.some Jvm.ClassFile.FieldType.byte), Jvm.Cond.code ({ cls := "java/lang/Math", name := "min", desc := "(II)I" } : Jvm.MethodName) jdk_29_method_69_code (2 : Nat) (Option.some Jvm.ClassFile.FieldType.int), Jvm.Cond.code ({ cls := "java/lang/Integer", name := "compare", desc := "(II)I" } : Jvm.MethodName) jdk_33_method_40_code (2 : Nat) (Option.some Jvm.ClassFile.FieldType.int), Jvm.Cond.code ({ cls := "java/lang/StringUTF16", name := "compress", desc := "([CII)[B" } : Jvm.MethodName) jdk_52_method_16_code (6 : Nat) (Option.some (Jvm.ClassFile.FieldType.array Jvm.ClassFile.FieldType.byte)), Jvm.Cond.code ({ cls := "java/lang/StringUTF16", name := "compress", desc := "([CI[BII)I" } : Jvm.MethodName) jdk_52_method_21_code (7 : Nat) (Option.some Jvm.ClassFile.FieldType.int), Jvm.Cond.code ({ cls := "java/lang/StringUTF16", name := "coderFromArrayLen", desc := "([BI)B" } : Jvm.MethodName) jdk_52_method_15_code (2 : Nat) (Option.some Jvm.ClassFile.FieldType.byte), Jvm.Cond.code ({ cls := "com/example/broker/broker/Utf8OrderComparePinLaw", name := "width", desc := "(I)I" } : Jvm.MethodName) method_6_code (1 : Nat) (Option.some Jvm.ClassFile.FieldType.int), Jvm.Cond.code ({ cls := "java/lang/String", name := "codePointAt", desc := "(I)I" } : Jvm.MethodName) jdk_42_method_57_code (3 : Nat) (Option.some Jvm.ClassFile.FieldType.int), Jvm.Cond.code ({ cls := "java/lang/String", name := "isLatin1", desc := "()Z" } : Jvm.MethodName) jdk_42_method_154_code (1 : Nat) (Option.some Jvm.ClassFile.FieldType.boolean), Jvm.Cond.code ({ cls := "java/lang/String", name := "checkIndex", desc := "(II)V" } : Jvm.MethodName) jdk_42_method_155_code (2 : Nat) (Option.none : Option Jvm.ClassFile.FieldType), Jvm.Cond.code ({ cls := "jdk/internal/util/Preconditions", name := "checkIndex", desc := "(IILjava/util/function/BiFunction;)I" } : Jvm.MethodName) jdk_41_method_11_code (3 : Nat) (Option.some Jvm.ClassFile.FieldType.int), Jvm.Cond.code ({ cls := "java/lang/StringUTF16", name := "toBytes", desc := "([CII)[B" } : Jvm.MethodName) jdk_52_method_14_code (5 : Nat) (Option.some (Jvm.ClassFile.FieldType.array Jvm.ClassFile.FieldType.byte)), Jvm.Cond.code ({ cls := "java/lang/StringUTF16", name := "newBytesFor", desc := "(I)[B" } : Jvm.MethodName) jdk_52_method_2_code (1 : Nat) (Option.some (Jvm.ClassFile.FieldType.array Jvm.ClassFile.FieldType.byte)), Jvm.Cond.code ({ cls := "java/lang/StringUTF16", name := "newBytesLength", desc := "(I)I" } : Jvm.MethodName) jdk_52_method_3_code (1 : Nat) (Option.some Jvm.ClassFile.FieldType.int), Jvm.Cond.code ({ cls := "java/lang/StringUTF16", name := "putChar", desc := "([BII)V" } : Jvm.MethodName) jdk_52_method_4_code (3 : Nat) (Option.none : Option Jvm.ClassFile.FieldType), Jvm.Cond.code ({ cls := "java/lang/StringUTF16", name := "getChar", desc := "([BI)C" } : Jvm.MethodName) jdk_52_method_5_code (2 : Nat) (Option.some Jvm.ClassFile.FieldType.char), Jvm.Cond.code ({ cls := "java/lang/StringUTF16", name := "codePointAt", desc := "([BII)I" } : Jvm.MethodName) jdk_52_method_8_code (3 : Nat) (Option.some Jvm.ClassFile.FieldType.int), Jvm.Cond.code ({ cls := "java/lang/StringUTF16", name := "codePointAt", desc := "([BIIZ)I" } : Jvm.MethodName) jdk_52_method_7_code (6 : Nat) (Option.some Jvm.ClassFile.FieldType.int), Jvm.Cond.code ({ cls := "java/lang/Character", name := "isHighSurrogate", desc := "(C)Z" } : Jvm.MethodName) jdk_89_method_14_code (1 : Nat) (Option.some Jvm.ClassFile.FieldType.boolean), Jvm.Cond.code ({ cls := "java/lang/Character", name := "charCount", desc := "(I)I" } : Jvm.MethodName) jdk_89_method_18_code (1 : Nat) (Option.some Jvm.ClassFile.FieldType.int), Jvm.Cond.code ({ cls := "java/lang/Character", name := "isLowSurrogate", desc := "(C)Z" } : Jvm.MethodName) jdk_89_method_15_code (1 : Nat) (Option.some Jvm.ClassFile.FieldType.boolean), Jvm.Cond.code ({ cls := "java/lang/Character", name := "toCodePoint", desc := "(CC)I" } : Jvm.MethodName) jdk_89_method_19_code (2 : Nat) (Option.some Jvm.ClassFile.FieldType.int)]
set_option maxRecDepth 65536 in
theorem codes_eq : words1.filter isCode = codes1 := rfl
theorem w_codes : ∀ c ∈ words1.filter isCode, c.before args0 about1 = true := by
  rw [codes_eq]
  intro c hc
  simp only [codes1, List.mem_cons, List.not_mem_nil, or_false] at hc
  rcases hc with rfl | rfl | rfl | rfl | rfl | rfl | rfl | rfl | rfl | rfl | rfl | rfl | rfl | rfl | rfl | rfl | rfl | rfl | rfl | rfl | rfl | rfl | rfl | rfl | rfl | rfl | rfl | rfl | rfl | rfl | rfl | rfl | rfl
  · exact w_c0
  · exact w_c1
  · exact w_c2
  · exact w_c3
  · exact w_c4
  · exact w_c5
  · exact w_c6
  · exact w_c7
  · exact w_c8
  · exact w_c9
  · exact w_c10
  · exact w_c11
  · exact w_c12
  · exact w_c13
  · exact w_c14
  · exact w_c15
  · exact w_c16
  · exact w_c17
  · exact w_c18
  · exact w_c19
  · exact w_c20
  · exact w_c21
  · exact w_c22
  · exact w_c23
  · exact w_c24
  · exact w_c25
  · exact w_c26
  · exact w_c27
  · exact w_c28
  · exact w_c29
  · exact w_c30
  · exact w_c31
  · exact w_c32
set_option maxRecDepth 65536 in
theorem w_t1 : (words1.take 24).all (fun c => isCode c || c.before args0 about1) = true := by decide +kernel
set_option maxRecDepth 65536 in
theorem w_t2 : ((words1.drop 24).take 24).all (fun c => isCode c || c.before args0 about1) = true := by decide +kernel
set_option maxRecDepth 65536 in
theorem w_t3 : (((words1.drop 24).drop 24).take 24).all (fun c => isCode c || c.before args0 about1) = true := by decide +kernel
set_option maxRecDepth 65536 in
theorem w_t4 : ((((words1.drop 24).drop 24).drop 24).take 24).all (fun c => isCode c || c.before args0 about1) = true := by decide +kernel
set_option maxRecDepth 65536 in
theorem w_t5 : (((((words1.drop 24).drop 24).drop 24).drop 24).take 24).all (fun c => isCode c || c.before args0 about1) = true := by decide +kernel
set_option maxRecDepth 65536 in
theorem w_t6 : (((((words1.drop 24).drop 24).drop 24).drop 24).drop 24).all (fun c => isCode c || c.before args0 about1) = true := by decide +kernel
theorem w_tables : (allAtoms (Jvm.Cond.code x code maxLocals ret :: tables_1)).before args0 about1 = true := by
  rw [allAtoms_all]
  show words1.all (fun c => c.before args0 about1) = true
  refine all_split ?_ w_codes
  rw [← List.take_append_drop 24 words1, List.all_append, w_t1, ← List.take_append_drop 24 (words1.drop 24), List.all_append, w_t2, ← List.take_append_drop 24 ((words1.drop 24).drop 24), List.all_append, w_t3, ← List.take_append_drop 24 (((words1.drop 24).drop 24).drop 24), List.all_append, w_t4, ← List.take_append_drop 24 ((((words1.drop 24).drop 24).drop 24).drop 24), List.all_append, w_t5, w_t6]
  rfl
set_option maxRecDepth 65536 in
theorem w_rest : rest_1_c.before args0 about1 = true := by decide +kernel
set_option maxRecDepth 65536 in
theorem w_case : (Jvm.Cond.and given_1 narrow_1).before args0 about1 = true := by decide +kernel
set_option maxRecDepth 65536 in
theorem w_consts : constsHeld consts_1 about1 := Jvm.Lit.constsHeldB_iff.mp (by decide +kernel)
theorem w_applies : (headSpec (Jvm.Cond.code x code maxLocals ret :: tables_1) room_1).applies x e0.platform about1 = true :=
  (Spec.applies_iff w_frames).mpr ⟨w_running, w_runnable, w_alone, w_named, w_hears, w_ripe, w_room, w_tables⟩
theorem atStart : AtStart classFile x code maxLocals ret World_1 tables_1 room_1 Calls_1 rest_1 Pre_1 launch0 p0 e0 about1 theMethod args0 below0 :=
  ⟨lists_1, trivial, launch0.admits_env _ _ _, launch0.least_env, fairChoices_fair.cas, fairChoices_fair.clock, w_frames, w_args, w_heap, w_applies, ⟨w_consts, trivial⟩, w_rest, w_case⟩
end start1
theorem witness_1 : WitnessClaimed_1 := ⟨start1.p0, start1.e0, start1.about1, start1.theMethod, start1.args0, start1.below0, start1.atStart⟩
end Jvm.Pilot.@@N@@
