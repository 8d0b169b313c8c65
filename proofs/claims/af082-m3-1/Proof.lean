import JvmDerived
import JvmDerived.Pilot.@@N@@Statement
import JvmDerived.Pilot.@@N@@Code
set_option linter.unusedVariables false
set_option linter.unusedSimpArgs false
namespace Jvm.Pilot.@@N@@
open Jvm Jvm.ClassFile Sem Op Lib Jvm.Free Jvm.Stand Jvm.LawKit Jvm.RoadKit Bundle Jvm.Pilot.@@N@@.Jvm.D
section OwnKit
variable {p : Program} {l : Launch} {e : Env} {R : Room} {s : State} {m : MethodId} {args : Array Value} {below : List Frame} {meth : Method} {c : Code} {T : State} {locs : List Loc} {cells slots : Nat}
def own_G (tb : Tables) (e : Env) (below : List Frame) (s : State) (Q : Option Value → Heap → List Loc → Prop) (k n : Nat) (A : State) : Prop :=
  ∃ u o, Steps tb e below A u ∧ u.status = .running ∧ Ended u below o ∧ ∃ v L, o = Outcome.returned v ∧ Q v u.heap L ∧ FrameEnd s o u L k n
theorem own_go {tb : Tables} {Q : Option Value → Heap → List Loc → Prop} {k n : Nat} {A B : State} (h : ∀ t, Steps tb e below B t → Steps tb e below A t) (g : own_G tb e below s Q k n B) : own_G tb e below s Q k n A := by
  obtain ⟨u, o, h1, r⟩ := g; exact ⟨u, o, h u h1, r⟩
theorem own_ret (X : Stand p l e R s m args below meth c T locs cells slots) (hx : p.tables.exec = Jvm.exec) {pc : Nat} {Ls : Array Slot} {w : Value} {t : FieldType} {i : Instr} {rest : List Value} (hret : meth.sig.returnType = some t) (hn : narrow t w = w)
    (hi : (i = .ireturn ∧ (t = .int ∨ t = .boolean ∨ t = .byte ∨ t = .char ∨ t = .short) ∧ ∃ z, w = .int z) ∨ (i = .lreturn ∧ t = .long ∧ ∃ z, w = .long z) ∨ (i = .dreturn ∧ t = .double ∧ ∃ z, w = .double z) ∨ (i = .freturn ∧ t = .float ∧ ∃ z, w = .float z) ∨ (i = .areturn ∧ t.isReference = true ∧ w.isRef = true))
    (hd : decode c.code pc = .ok (i, 1)) (hlocks : meth.locks = false) {Q : Option Value → Heap → List Loc → Prop} {k n : Nat} (hQ : Q (some w) T.heap locs) (hk : cells ≤ k) (hs : slots ≤ n) : own_G p.tables e below s Q k n (T.setTop (mkF m pc Ls (w :: rest))) := by
  obtain ⟨fs, hr, hrun, hended, hW, hsame⟩ := X.leave (v := some w) (fun h => by rw [hret] at h; cases h) hlocks
  exact ⟨_, _, retOut X hx hret hn hi hd hr, hrun, hended, _, _, rfl, hQ, ⟨_, rfl⟩, hW, hsame.mono hk hs⟩
theorem own_retV (X : Stand p l e R s m args below meth c T locs cells slots) (hx : p.tables.exec = Jvm.exec) {pc : Nat} {Ls : Array Slot} (hret : meth.sig.returnType = none)
    (hd : decode c.code pc = .ok (.return_, 1)) (hlocks : meth.locks = false) {Q : Option Value → Heap → List Loc → Prop} {k n : Nat} (hQ : Q none T.heap locs) (hk : cells ≤ k) (hs : slots ≤ n) : own_G p.tables e below s Q k n (T.setTop (mkF m pc Ls [])) := by
  obtain ⟨fs, hr, hrun, hended, hW, hsame⟩ := X.leave (v := none) (fun _ => rfl) hlocks
  exact ⟨_, _, X.returnOut hx hret hd hr, hrun, hended, _, _, rfl, hQ, ⟨_, rfl⟩, hW, hsame.mono hk hs⟩
def own_Met (l : Launch) (Z : State) (y : MethodName) (bytes : ByteArray) (maxL : Nat) (ret : Option FieldType) (ws : List Jvm.Cond) (rm : Room) (as' : Array Value) (h0 : Heap) (Q : Option Value → Heap → List Loc → Prop) : Prop :=
  MetFree l y (head1 (Jvm.Cond.code y bytes maxL ret :: ws) rm) (fun a U => a = as' ∧ Z.Warmed39 U.vm ∧ U.heap = h0) (fun _ _ _ _ _ => True) (fun _ U o U' => ∃ v L, o = .returned v ∧ Q v U'.heap L ∧ FrameEnd U o U' L rm.cells rm.slots)
theorem own_body {l : Launch} {Z : State} {y : MethodName} {bytes : ByteArray} {maxL : Nat} {ret : Option FieldType} {ws : List Jvm.Cond} {rm : Room} {as' : Array Value} {h0 : Heap} {Q : Option Value → Heap → List Loc → Prop} (hp : plainFor y = true)
    (H : ∀ (p : Program) (e : Env) (s : State) (m : MethodId) (below : List Frame) (meth : Method) (c : Code) (s₁ : State), p.tables.exec = Jvm.exec → c.code = bytes → c.maxLocals = maxL → s.vm.findClass y.cls = some m.cls → meth.name = y.name → meth.locks = false → meth.sig.returnType = ret → Z.Warmed39 s.vm → Stand p l e rm s m as' below meth c s₁ [] 0 0 → s₁.heap = h0 →
      own_G p.tables e below s Q rm.cells rm.slots (s₁.setTop (entryFrame m as' maxL))) : own_Met l Z y bytes maxL ret ws rm as' h0 Q := by
  refine MetFree.of_bodySF hp hisR ?_
  intro p e s m args below meth c s₁ Bd hml0 hP hK
  obtain ⟨rfl, hZ, hh⟩ := hP
  exact H p e s m below meth c s₁ Bd.exec Bd.bytes hml0 (findClass_of_methodNamed Bd.named) (name_of_methodNamed Bd.named Bd.method).1 (BodyLoose.notSynchronized Bd) Bd.returns hZ (Stand.of_body Bd) (by rw [← hh, Bd.state]; rfl)
theorem own_back {Z : State} {a0 : Array Value} {h : Heap} {y : MethodName} {bytes : ByteArray} {maxL : Nat} {ret : Option FieldType} {rm : Room} {len W : Nat} {as' : Array Value} {Q : Option Value → Heap → List Loc → Prop} (hM : own_Met l Z y bytes maxL ret [] rm as' h Q)
    (hZ : Z.Warmed39 s.vm) (wc : (Jvm.Cond.code y bytes maxL ret).before a0 Z = true) (wz : (Jvm.Cond.initialized y.cls).before a0 Z = true) (hf : rm.frames + 1 ≤ R.frames) (hl : W + (maxL + 11) + rm.locals ≤ R.locals) :
    Back l R p e below s args y len W (fun A a => a = as' ∧ A.U.heap = h ∧ A.cells + rm.cells ≤ R.cells ∧ A.slots + rm.slots ≤ R.slots) (fun A _ v B => ∃ L, Q v B.U.heap L ∧ B.locs = A.locs ++ L ∧ B.cells = A.cells + rm.cells ∧ B.slots = A.slots + rm.slots) :=
  backOf (Q := Q) hM hZ wc wz hf hl
theorem own_xt {h0 h h' : Heap} (E : Ext h0 h) (F : Ext h h') : Ext h0 h' := ⟨Nat.le_trans E.1 F.1, fun a c q => F.2 a c (E.2 a c q)⟩
theorem own_xr (h : Heap) : Ext h h := ⟨Nat.le_refl _, fun _ _ q => q⟩
theorem own_xw {h0 h h' : Heap} {a : Addr} {sl : Nat} {v : Value} (E : Ext h0 h) (W : Wr h h' a sl v) (q : h0.size ≤ a) : Ext h0 h' := by
  have K := (Keep.of_wr W)
  exact ⟨Nat.le_trans E.1 K.1, fun x c r => K.2.1 x c (E.2 x c r) fun z => by
    cases List.mem_singleton.mp z
    exact absurd (Array.getElem?_eq_some_iff.mp r).1 (Nat.not_lt.mpr q)⟩
theorem own_fI {Z : State} {args : Array Value} {t : Term} {F fn fd : String} {a : Addr} {k : Int32} (ev : t.eval args Z none [] Z = some (.ref a)) (h : (Cond.eq (Term.field t F fn fd) (Term.int k)).value args Z none Z [] = some true) : Fld Z Z.heap a F fn fd (.int k) := by
  obtain ⟨x, y, h1, h2, h3, h4⟩ := cmp_v (Or.inl h)
  rw [fld_at ev] at h1
  cases (Term.int_eval k).symm.trans h2
  obtain ⟨z, rfl⟩ := h4
  have e1 : (Term.field t F fn fd).eval args Z none [] Z = some (.int z) := (fld_at ev).trans h1
  simp only [Cond.value, e1, Term.int_eval] at h
  have hz : z = k := by simpa using h
  subst hz
  exact Fld.start h1
theorem own_fJ {Z : State} {args : Array Value} {t : Term} {F fn fd : String} {a : Addr} {k : Int64} (ev : t.eval args Z none [] Z = some (.ref a)) (h : (Cond.eq (Term.field t F fn fd) (Term.long k)).value args Z none Z [] = some true) : Fld Z Z.heap a F fn fd (.long k) := by
  obtain ⟨x, y, h1, h2, h3, h4⟩ := cmp_v (Or.inl h)
  rw [fld_at ev] at h1
  cases (long_at k).symm.trans h2
  obtain ⟨z, rfl⟩ := h4
  have e1 : (Term.field t F fn fd).eval args Z none [] Z = some (.long z) := (fld_at ev).trans h1
  have hz := gotT (eq_L e1 (long_at k)) h
  subst hz
  exact Fld.start h1
theorem own_len {Z : State} {args : Array Value} {t : Term} {a : Addr} {cl : Cell} {ty : FieldType} {k : Int32} (ev : t.eval args Z none [] Z = some (.ref a)) (A : Arr Z Z.heap a cl ty) (h : (Cond.eq (Term.length t) (Term.int k)).value args Z none Z [] = some true) : cl.slots.size < 2 ^ 31 ∧ cl.slots.size.toInt32 = k := by
  have ha := Arr.fin (Vm.Alike.refl _) A
  obtain ⟨x, y, h1, h2, h3, h4⟩ := cmp_v (Or.inl h)
  by_cases hl : cl.slots.size < 2 ^ 31
  · have e1 := len_f (o := none) (idx := []) (first := Z) (args := args) ev ha hl
    simp only [Cond.value, e1, Term.int_eval] at h
    exact ⟨hl, by simpa using h⟩
  · simp [Term.eval, ev, ha, hl] at h1
theorem own_elV {Z : State} {args : Array Value} {t u : Term} {a : Addr} {cl : Cell} {k : Int32} {v : Value} {i : Nat} (ev : t.eval args Z none [] Z = some (.ref a)) (hc : Z.heap[a]? = some cl) (hu : u.eval args Z none [] Z = some v) (h : (Cond.eq (Term.elem t (Term.int k)) u).value args Z none Z [] = some true) (hk : k.toNatClampNeg = i) : cl.slots[i]? = some v := by
  obtain ⟨x, y, h1, h2, h3, h4⟩ := cmp_v (Or.inl h)
  cases hu.symm.trans h2
  have q := (elem_in h1 ev (Term.int_eval k) hc).2
  rw [hk] at q
  rw [q]
  simp only [Cond.value, h1, hu] at h
  cases x <;> cases v <;> simp_all [Kin, Value.isRef]
theorem own_ne {Z : State} {h : Heap} {a b : Addr} {C n d : String} {k j : Int32} (F : Fld Z h a C n d (.int k)) (G : Fld Z h b C n d (.int j)) (q : k ≠ j) : a ≠ b := Fld.ne F G (fun e => q (Value.int.inj e))
theorem own_rem {x n : Int32} (h0 : 0 ≤ x.toInt) (h1 : 0 < n.toInt) : 0 ≤ (x % n).toInt ∧ (x % n).toInt < n.toInt := by
  have := (c_iremV x n).1 h0 h1; exact ⟨this.1, this.2.1⟩
theorem own_msk (x : Int32) : 0 ≤ (x &&& (2147483647 : Int32)).toInt := (c_and x 2147483647 (by decide)).1
end OwnKit
def own_W (Z : State) (A : Nat → Addr) : Prop := Sta Z Z.heap "com/example/hovedvilkar/hovedvilkar/Deadline$Event" "MEETING_NOTICE" "Lcom/example/hovedvilkar/hovedvilkar/Deadline$Event;" (.ref (A 0)) ∧ Exa Z Z.heap (A 0) "com/example/hovedvilkar/hovedvilkar/Deadline$Event" ∧ Sta Z Z.heap "com/example/hovedvilkar/hovedvilkar/Deadline$Event" "WRITTEN_PROCEDURE" "Lcom/example/hovedvilkar/hovedvilkar/Deadline$Event;" (.ref (A 1)) ∧ Exa Z Z.heap (A 1) "com/example/hovedvilkar/hovedvilkar/Deadline$Event" ∧ Sta Z Z.heap "com/example/hovedvilkar/hovedvilkar/Deadline$Event" "PAYMENT_GRACE" "Lcom/example/hovedvilkar/hovedvilkar/Deadline$Event;" (.ref (A 2)) ∧ Exa Z Z.heap (A 2) "com/example/hovedvilkar/hovedvilkar/Deadline$Event" ∧ Sta Z Z.heap "com/example/hovedvilkar/hovedvilkar/Deadline$Event" "CALL_NOTICE" "Lcom/example/hovedvilkar/hovedvilkar/Deadline$Event;" (.ref (A 3)) ∧ Exa Z Z.heap (A 3) "com/example/hovedvilkar/hovedvilkar/Deadline$Event" ∧ Sta Z Z.heap "com/example/hovedvilkar/hovedvilkar/Deadline$Event" "LAST_TAP" "Lcom/example/hovedvilkar/hovedvilkar/Deadline$Event;" (.ref (A 4)) ∧ Exa Z Z.heap (A 4) "com/example/hovedvilkar/hovedvilkar/Deadline$Event" ∧ Fld Z Z.heap (A 0) "java/lang/Enum" "ordinal" "I" (.int (0 : Int32)) ∧ Fld Z Z.heap (A 1) "java/lang/Enum" "ordinal" "I" (.int (4 : Int32)) ∧ Fld Z Z.heap (A 2) "java/lang/Enum" "ordinal" "I" (.int (3 : Int32)) ∧ Fld Z Z.heap (A 3) "java/lang/Enum" "ordinal" "I" (.int (1 : Int32)) ∧ Fld Z Z.heap (A 4) "java/lang/Enum" "ordinal" "I" (.int (2 : Int32))
theorem own_c5 (x : Int32) : ((x &&& (2147483647 : Int32)) % (5 : Int32)) = (0 : Int32) ∨ ((x &&& (2147483647 : Int32)) % (5 : Int32)) = (1 : Int32) ∨ ((x &&& (2147483647 : Int32)) % (5 : Int32)) = (2 : Int32) ∨ ((x &&& (2147483647 : Int32)) % (5 : Int32)) = (3 : Int32) ∨ ((x &&& (2147483647 : Int32)) % (5 : Int32)) = (4 : Int32) := by
  have h := own_rem (n := (5 : Int32)) (own_msk x) (by decide)
  generalize ((x &&& (2147483647 : Int32)) % (5 : Int32)) = i at h ⊢
  have hn : ((5 : Int32)).toInt = 5 := by decide
  rw [hn] at h
  rcases (by omega : i.toInt = 0 ∨ i.toInt = 1 ∨ i.toInt = 2 ∨ i.toInt = 3 ∨ i.toInt = 4) with q | q | q | q | q
  · exact Or.inl (Int32.toInt_inj.mp (q.trans (by decide : (0 : Int) = ((0 : Int32)).toInt)))
  · exact Or.inr (Or.inl (Int32.toInt_inj.mp (q.trans (by decide : (1 : Int) = ((1 : Int32)).toInt))))
  · exact Or.inr (Or.inr (Or.inl (Int32.toInt_inj.mp (q.trans (by decide : (2 : Int) = ((2 : Int32)).toInt)))))
  · exact Or.inr (Or.inr (Or.inr (Or.inl (Int32.toInt_inj.mp (q.trans (by decide : (3 : Int) = ((3 : Int32)).toInt))))))
  · exact Or.inr (Or.inr (Or.inr (Or.inr ((Int32.toInt_inj.mp (q.trans (by decide : (4 : Int) = ((4 : Int32)).toInt)))))))
theorem pn_0 : plainName "com/example/hovedvilkar/hovedvilkar/EventIsWindowPinLaw" = true := by first | (simp [plainName, overriddenIn]; done) | decide +kernel
theorem ef_0 (m : MethodId) (x0 : Int32) : entryFrame m #[(.int x0)] maxLocals = mkF m 0 #[.val (.int x0), .unset, .unset, .unset] [] := by first | (simp [entryFrame, mkF, argsToLocals, Value.category, maxLocals]; done) | rfl
theorem ef_1 (m : MethodId) (x0 : Int32) : entryFrame m #[(.int x0)] 1 = mkF m 0 #[.val (.int x0)] [] := by first | (simp [entryFrame, mkF, argsToLocals, Value.category]; done) | rfl
theorem d1_0 : decode method_2_code 0 = .ok (.iload_n 0, 1) := by decide +kernel
theorem d1_1 : decode method_2_code 1 = .ok (.ifCond .ne 7, 3) := by decide +kernel
theorem d1_4 : decode method_2_code 4 = .ok (.getstatic 7, 3) := by decide +kernel
theorem d1_7 : decode method_2_code 7 = .ok (.areturn, 1) := by decide +kernel
theorem pd_0 : parseMethodDescriptor "(I)Lcom/example/hovedvilkar/hovedvilkar/Deadline$Event;" = some ⟨[.int], some (.object "com/example/hovedvilkar/hovedvilkar/Deadline$Event")⟩ := by decide +kernel
theorem pn_1 : plainName "com/example/hovedvilkar/hovedvilkar/Deadline$Event" = true := by first | (simp [plainName, overriddenIn]; done) | decide +kernel
theorem ef_2 (m : MethodId) (x0 : Addr) : entryFrame m #[(.ref x0)] 1 = mkF m 0 #[.val (.ref x0)] [] := by first | (simp [entryFrame, mkF, argsToLocals, Value.category]; done) | rfl
theorem d2_0 : decode prog_27_method_6_code 0 = .ok (.aload_n 0, 1) := by decide +kernel
theorem d2_1 : decode prog_27_method_6_code 1 = .ok (.getstatic 16, 3) := by decide +kernel
theorem d2_4 : decode prog_27_method_6_code 4 = .ok (.if_acmp .ne 7, 3) := by decide +kernel
theorem d2_11 : decode prog_27_method_6_code 11 = .ok (.iconst 0, 1) := by decide +kernel
theorem d2_12 : decode prog_27_method_6_code 12 = .ok (.ireturn, 1) := by decide +kernel
theorem pd_1 : parseMethodDescriptor "()Z" = some ⟨[], some .boolean⟩ := by decide +kernel
theorem d1_8 : decode method_2_code 8 = .ok (.iload_n 0, 1) := by decide +kernel
theorem d1_9 : decode method_2_code 9 = .ok (.iconst 1, 1) := by decide +kernel
theorem d1_10 : decode method_2_code 10 = .ok (.if_icmp .ne 7, 3) := by decide +kernel
theorem d1_13 : decode method_2_code 13 = .ok (.getstatic 13, 3) := by decide +kernel
theorem d1_16 : decode method_2_code 16 = .ok (.areturn, 1) := by decide +kernel
theorem d1_17 : decode method_2_code 17 = .ok (.iload_n 0, 1) := by decide +kernel
theorem d1_18 : decode method_2_code 18 = .ok (.iconst 2, 1) := by decide +kernel
theorem d1_19 : decode method_2_code 19 = .ok (.if_icmp .ne 7, 3) := by decide +kernel
theorem d1_22 : decode method_2_code 22 = .ok (.getstatic 16, 3) := by decide +kernel
theorem d1_25 : decode method_2_code 25 = .ok (.areturn, 1) := by decide +kernel
theorem d1_26 : decode method_2_code 26 = .ok (.iload_n 0, 1) := by decide +kernel
theorem d1_27 : decode method_2_code 27 = .ok (.iconst 3, 1) := by decide +kernel
theorem d1_28 : decode method_2_code 28 = .ok (.if_icmp .ne 7, 3) := by decide +kernel
theorem d1_31 : decode method_2_code 31 = .ok (.getstatic 19, 3) := by decide +kernel
theorem d1_34 : decode method_2_code 34 = .ok (.areturn, 1) := by decide +kernel
theorem d1_35 : decode method_2_code 35 = .ok (.getstatic 22, 3) := by decide +kernel
theorem d1_38 : decode method_2_code 38 = .ok (.areturn, 1) := by decide +kernel
theorem d2_7 : decode prog_27_method_6_code 7 = .ok (.iconst 1, 1) := by decide +kernel
theorem d2_8 : decode prog_27_method_6_code 8 = .ok (.goto 4, 3) := by decide +kernel
set_option maxRecDepth 65536 in
set_option maxHeartbeats 40000000 in
theorem rm1_0 (l : Launch) (Z : State) (a0 : Array Value) (hw : ∀ d ∈ tables_1, d.before a0 Z = true) (ws : List Jvm.Cond)  (A : Nat → Addr) (hW : own_W Z A) (h0 : Heap) (x0 : Ext Z.heap h0)  :
    own_Met l Z (⟨"com/example/hovedvilkar/hovedvilkar/EventIsWindowPinLaw", "pick", "(I)Lcom/example/hovedvilkar/hovedvilkar/Deadline$Event;"⟩ : MethodName) method_2_code 1 (some (.object "com/example/hovedvilkar/hovedvilkar/Deadline$Event")) ws ({ frames := 0, cells := 0, slots := 0, locals := 0 } : Room) #[(.int (0 : Int32))] h0 (fun v_ h_ L_ => v_ = some (.ref (A 0)) ∧ Fr Z.heap.size L_ ∧ h_ = h0) := by
  refine own_body (plainFor_of_name pn_0) fun p e s m below meth c s₁ hx hby hml hown hnm hlk hrt hZ X0 e0 => ?_
  have N0 := Fr.nil Z.heap.size
  have hW' := hW
  obtain ⟨S_MEETING_NOTICE, -, -, -, -, -, -, -, -, -, -, -, -, -, -⟩ := hW'
  refine own_go (B := s₁.setTop (mkF m 0 #[.val (.int (0 : Int32))] [])) (fun t k => castTop (ef_1 m (0 : Int32)) k) ?_
  refine own_go (B := s₁.setTop (mkF m 1 #[.val (.int (0 : Int32))] [(.int (0 : Int32))])) (fun _ k => XS.iloadN X0.here hx rfl (hb hby d1_0) rfl k) ?_
  refine own_go (B := s₁.setTop (mkF m 4 #[.val (.int (0 : Int32))] [])) (fun _ k => XS.ifNo X0.here hx rfl (hb hby d1_1) rfl (by decide) k) ?_
  obtain ⟨T1, X1, e1, st1⟩ := getS2 X0 hx hZ hown (host := "") (Or.inl (hw _ (List.mem_of_getElem? (i := 5) rfl))) Via.refl e0 (S_MEETING_NOTICE.ext x0) (g := (mkF m 4 #[.val (.int (0 : Int32))] [])) rfl (hb hby d1_4)
  refine own_go (B := T1.setTop (mkF m 7 #[.val (.int (0 : Int32))] [(.ref (A 0))])) st1 ?_
  exact own_ret X1 hx (t := (.object "com/example/hovedvilkar/hovedvilkar/Deadline$Event")) hrt rfl (Or.inr (Or.inr (Or.inr (Or.inr ⟨rfl, rfl, rfl⟩)))) (hb hby d1_7) hlk ⟨rfl, N0, e1⟩ (by decide) (by decide)
set_option maxRecDepth 65536 in
set_option maxHeartbeats 40000000 in
theorem rm2_0 (l : Launch) (Z : State) (a0 : Array Value) (hw : ∀ d ∈ tables_1, d.before a0 Z = true) (ws : List Jvm.Cond)  (A : Nat → Addr) (hW : own_W Z A) (h0 : Heap) (x0 : Ext Z.heap h0)  :
    own_Met l Z (⟨"com/example/hovedvilkar/hovedvilkar/Deadline$Event", "isWindow", "()Z"⟩ : MethodName) prog_27_method_6_code 1 (some .boolean) ws ({ frames := 0, cells := 0, slots := 0, locals := 0 } : Room) #[(.ref (A 0))] h0 (fun v_ h_ L_ => v_ = some (.int (0 : Int32)) ∧ Fr Z.heap.size L_ ∧ h_ = h0) := by
  refine own_body (plainFor_of_name pn_1) fun p e s m below meth c s₁ hx hby hml hown hnm hlk hrt hZ X0 e0 => ?_
  have N0 := Fr.nil Z.heap.size
  have hW' := hW
  obtain ⟨-, -, S_WRITTEN_PROCEDURE, -, -, -, -, -, -, -, F_MEETING_NOTICE_ordinal, F_WRITTEN_PROCEDURE_ordinal, -, -, -⟩ := hW'
  refine own_go (B := s₁.setTop (mkF m 0 #[.val (.ref (A 0))] [])) (fun t k => castTop (ef_2 m (A 0)) k) ?_
  refine own_go (B := s₁.setTop (mkF m 1 #[.val (.ref (A 0))] [(.ref (A 0))])) (fun _ k => XS.aloadN X0.here hx rfl (hb hby d2_0) rfl rfl k) ?_
  obtain ⟨T1, X1, e1, st1⟩ := getS2 X0 hx hZ hown (host := "") (Or.inl (hw _ (List.mem_of_getElem? (i := 13) rfl))) Via.refl e0 (S_WRITTEN_PROCEDURE.ext x0) (g := (mkF m 1 #[.val (.ref (A 0))] [(.ref (A 0))])) rfl (hb hby d2_1)
  refine own_go (B := T1.setTop (mkF m 4 #[.val (.ref (A 0))] [(.ref (A 1)), (.ref (A 0))])) st1 ?_
  refine own_go (B := T1.setTop (mkF m 11 #[.val (.ref (A 0))] [])) (fun _ k => Jvm.RoadKit.acmp (g := (mkF m 4 #[.val (.ref (A 0))] [(.ref (A 1)), (.ref (A 0))])) X1 hx rfl rfl rfl (pc0 := 4) (pc' := 11) (same := false) rfl (hb hby d2_4) rfl (decide_eq_false fun q => (own_ne F_MEETING_NOTICE_ordinal F_WRITTEN_PROCEDURE_ordinal (by decide)) (Value.ref.inj q)) (by decide) (by decide) k) ?_
  refine own_go (B := T1.setTop (mkF m 12 #[.val (.ref (A 0))] [(.int (0 : Int32))])) (fun _ k => XT.iconstV X1.here hx rfl (0 : Int32) (hb hby d2_11) rfl k) ?_
  exact own_ret X1 hx (t := .boolean) hrt rfl (Or.inl ⟨rfl, by simp, _, rfl⟩) (hb hby d2_12) hlk ⟨rfl, N0, e1⟩ (by decide) (by decide)
set_option maxRecDepth 65536 in
set_option maxHeartbeats 40000000 in
theorem rm1_1 (l : Launch) (Z : State) (a0 : Array Value) (hw : ∀ d ∈ tables_1, d.before a0 Z = true) (ws : List Jvm.Cond)  (A : Nat → Addr) (hW : own_W Z A) (h0 : Heap) (x0 : Ext Z.heap h0)  :
    own_Met l Z (⟨"com/example/hovedvilkar/hovedvilkar/EventIsWindowPinLaw", "pick", "(I)Lcom/example/hovedvilkar/hovedvilkar/Deadline$Event;"⟩ : MethodName) method_2_code 1 (some (.object "com/example/hovedvilkar/hovedvilkar/Deadline$Event")) ws ({ frames := 0, cells := 0, slots := 0, locals := 0 } : Room) #[(.int (1 : Int32))] h0 (fun v_ h_ L_ => v_ = some (.ref (A 3)) ∧ Fr Z.heap.size L_ ∧ h_ = h0) := by
  refine own_body (plainFor_of_name pn_0) fun p e s m below meth c s₁ hx hby hml hown hnm hlk hrt hZ X0 e0 => ?_
  have N0 := Fr.nil Z.heap.size
  have hW' := hW
  obtain ⟨-, -, -, -, -, -, S_CALL_NOTICE, -, -, -, -, -, -, -, -⟩ := hW'
  refine own_go (B := s₁.setTop (mkF m 0 #[.val (.int (1 : Int32))] [])) (fun t k => castTop (ef_1 m (1 : Int32)) k) ?_
  refine own_go (B := s₁.setTop (mkF m 1 #[.val (.int (1 : Int32))] [(.int (1 : Int32))])) (fun _ k => XS.iloadN X0.here hx rfl (hb hby d1_0) rfl k) ?_
  refine own_go (B := s₁.setTop (mkF m 8 #[.val (.int (1 : Int32))] [])) (fun _ k => XS.ifYes X0.here hx rfl (pc0 := 1) (pc' := 8) rfl (hb hby d1_1) rfl (by decide) (by decide) (by decide) k) ?_
  refine own_go (B := s₁.setTop (mkF m 9 #[.val (.int (1 : Int32))] [(.int (1 : Int32))])) (fun _ k => XS.iloadN X0.here hx rfl (hb hby d1_8) rfl k) ?_
  refine own_go (B := s₁.setTop (mkF m 10 #[.val (.int (1 : Int32))] [(.int (1 : Int32)), (.int (1 : Int32))])) (fun _ k => XT.iconstV X0.here hx rfl (1 : Int32) (hb hby d1_9) rfl k) ?_
  refine own_go (B := s₁.setTop (mkF m 13 #[.val (.int (1 : Int32))] [])) (fun _ k => XS.icmpNo X0.here hx rfl (hb hby d1_10) rfl (by decide) k) ?_
  obtain ⟨T1, X1, e1, st1⟩ := getS2 X0 hx hZ hown (host := "") (Or.inl (hw _ (List.mem_of_getElem? (i := 17) rfl))) Via.refl e0 (S_CALL_NOTICE.ext x0) (g := (mkF m 13 #[.val (.int (1 : Int32))] [])) rfl (hb hby d1_13)
  refine own_go (B := T1.setTop (mkF m 16 #[.val (.int (1 : Int32))] [(.ref (A 3))])) st1 ?_
  exact own_ret X1 hx (t := (.object "com/example/hovedvilkar/hovedvilkar/Deadline$Event")) hrt rfl (Or.inr (Or.inr (Or.inr (Or.inr ⟨rfl, rfl, rfl⟩)))) (hb hby d1_16) hlk ⟨rfl, N0, e1⟩ (by decide) (by decide)
set_option maxRecDepth 65536 in
set_option maxHeartbeats 40000000 in
theorem rm2_1 (l : Launch) (Z : State) (a0 : Array Value) (hw : ∀ d ∈ tables_1, d.before a0 Z = true) (ws : List Jvm.Cond)  (A : Nat → Addr) (hW : own_W Z A) (h0 : Heap) (x0 : Ext Z.heap h0)  :
    own_Met l Z (⟨"com/example/hovedvilkar/hovedvilkar/Deadline$Event", "isWindow", "()Z"⟩ : MethodName) prog_27_method_6_code 1 (some .boolean) ws ({ frames := 0, cells := 0, slots := 0, locals := 0 } : Room) #[(.ref (A 3))] h0 (fun v_ h_ L_ => v_ = some (.int (0 : Int32)) ∧ Fr Z.heap.size L_ ∧ h_ = h0) := by
  refine own_body (plainFor_of_name pn_1) fun p e s m below meth c s₁ hx hby hml hown hnm hlk hrt hZ X0 e0 => ?_
  have N0 := Fr.nil Z.heap.size
  have hW' := hW
  obtain ⟨-, -, S_WRITTEN_PROCEDURE, -, -, -, -, -, -, -, -, F_WRITTEN_PROCEDURE_ordinal, -, F_CALL_NOTICE_ordinal, -⟩ := hW'
  refine own_go (B := s₁.setTop (mkF m 0 #[.val (.ref (A 3))] [])) (fun t k => castTop (ef_2 m (A 3)) k) ?_
  refine own_go (B := s₁.setTop (mkF m 1 #[.val (.ref (A 3))] [(.ref (A 3))])) (fun _ k => XS.aloadN X0.here hx rfl (hb hby d2_0) rfl rfl k) ?_
  obtain ⟨T1, X1, e1, st1⟩ := getS2 X0 hx hZ hown (host := "") (Or.inl (hw _ (List.mem_of_getElem? (i := 13) rfl))) Via.refl e0 (S_WRITTEN_PROCEDURE.ext x0) (g := (mkF m 1 #[.val (.ref (A 3))] [(.ref (A 3))])) rfl (hb hby d2_1)
  refine own_go (B := T1.setTop (mkF m 4 #[.val (.ref (A 3))] [(.ref (A 1)), (.ref (A 3))])) st1 ?_
  refine own_go (B := T1.setTop (mkF m 11 #[.val (.ref (A 3))] [])) (fun _ k => Jvm.RoadKit.acmp (g := (mkF m 4 #[.val (.ref (A 3))] [(.ref (A 1)), (.ref (A 3))])) X1 hx rfl rfl rfl (pc0 := 4) (pc' := 11) (same := false) rfl (hb hby d2_4) rfl (decide_eq_false fun q => (own_ne F_CALL_NOTICE_ordinal F_WRITTEN_PROCEDURE_ordinal (by decide)) (Value.ref.inj q)) (by decide) (by decide) k) ?_
  refine own_go (B := T1.setTop (mkF m 12 #[.val (.ref (A 3))] [(.int (0 : Int32))])) (fun _ k => XT.iconstV X1.here hx rfl (0 : Int32) (hb hby d2_11) rfl k) ?_
  exact own_ret X1 hx (t := .boolean) hrt rfl (Or.inl ⟨rfl, by simp, _, rfl⟩) (hb hby d2_12) hlk ⟨rfl, N0, e1⟩ (by decide) (by decide)
set_option maxRecDepth 65536 in
set_option maxHeartbeats 40000000 in
theorem rm1_2 (l : Launch) (Z : State) (a0 : Array Value) (hw : ∀ d ∈ tables_1, d.before a0 Z = true) (ws : List Jvm.Cond)  (A : Nat → Addr) (hW : own_W Z A) (h0 : Heap) (x0 : Ext Z.heap h0)  :
    own_Met l Z (⟨"com/example/hovedvilkar/hovedvilkar/EventIsWindowPinLaw", "pick", "(I)Lcom/example/hovedvilkar/hovedvilkar/Deadline$Event;"⟩ : MethodName) method_2_code 1 (some (.object "com/example/hovedvilkar/hovedvilkar/Deadline$Event")) ws ({ frames := 0, cells := 0, slots := 0, locals := 0 } : Room) #[(.int (2 : Int32))] h0 (fun v_ h_ L_ => v_ = some (.ref (A 4)) ∧ Fr Z.heap.size L_ ∧ h_ = h0) := by
  refine own_body (plainFor_of_name pn_0) fun p e s m below meth c s₁ hx hby hml hown hnm hlk hrt hZ X0 e0 => ?_
  have N0 := Fr.nil Z.heap.size
  have hW' := hW
  obtain ⟨-, -, -, -, -, -, -, -, S_LAST_TAP, -, -, -, -, -, -⟩ := hW'
  refine own_go (B := s₁.setTop (mkF m 0 #[.val (.int (2 : Int32))] [])) (fun t k => castTop (ef_1 m (2 : Int32)) k) ?_
  refine own_go (B := s₁.setTop (mkF m 1 #[.val (.int (2 : Int32))] [(.int (2 : Int32))])) (fun _ k => XS.iloadN X0.here hx rfl (hb hby d1_0) rfl k) ?_
  refine own_go (B := s₁.setTop (mkF m 8 #[.val (.int (2 : Int32))] [])) (fun _ k => XS.ifYes X0.here hx rfl (pc0 := 1) (pc' := 8) rfl (hb hby d1_1) rfl (by decide) (by decide) (by decide) k) ?_
  refine own_go (B := s₁.setTop (mkF m 9 #[.val (.int (2 : Int32))] [(.int (2 : Int32))])) (fun _ k => XS.iloadN X0.here hx rfl (hb hby d1_8) rfl k) ?_
  refine own_go (B := s₁.setTop (mkF m 10 #[.val (.int (2 : Int32))] [(.int (1 : Int32)), (.int (2 : Int32))])) (fun _ k => XT.iconstV X0.here hx rfl (1 : Int32) (hb hby d1_9) rfl k) ?_
  refine own_go (B := s₁.setTop (mkF m 17 #[.val (.int (2 : Int32))] [])) (fun _ k => XS.icmpYes X0.here hx rfl (pc0 := 10) (pc' := 17) rfl (hb hby d1_10) rfl (by decide) (by decide) (by decide) k) ?_
  refine own_go (B := s₁.setTop (mkF m 18 #[.val (.int (2 : Int32))] [(.int (2 : Int32))])) (fun _ k => XS.iloadN X0.here hx rfl (hb hby d1_17) rfl k) ?_
  refine own_go (B := s₁.setTop (mkF m 19 #[.val (.int (2 : Int32))] [(.int (2 : Int32)), (.int (2 : Int32))])) (fun _ k => XT.iconstV X0.here hx rfl (2 : Int32) (hb hby d1_18) rfl k) ?_
  refine own_go (B := s₁.setTop (mkF m 22 #[.val (.int (2 : Int32))] [])) (fun _ k => XS.icmpNo X0.here hx rfl (hb hby d1_19) rfl (by decide) k) ?_
  obtain ⟨T1, X1, e1, st1⟩ := getS2 X0 hx hZ hown (host := "") (Or.inl (hw _ (List.mem_of_getElem? (i := 20) rfl))) Via.refl e0 (S_LAST_TAP.ext x0) (g := (mkF m 22 #[.val (.int (2 : Int32))] [])) rfl (hb hby d1_22)
  refine own_go (B := T1.setTop (mkF m 25 #[.val (.int (2 : Int32))] [(.ref (A 4))])) st1 ?_
  exact own_ret X1 hx (t := (.object "com/example/hovedvilkar/hovedvilkar/Deadline$Event")) hrt rfl (Or.inr (Or.inr (Or.inr (Or.inr ⟨rfl, rfl, rfl⟩)))) (hb hby d1_25) hlk ⟨rfl, N0, e1⟩ (by decide) (by decide)
set_option maxRecDepth 65536 in
set_option maxHeartbeats 40000000 in
theorem rm2_2 (l : Launch) (Z : State) (a0 : Array Value) (hw : ∀ d ∈ tables_1, d.before a0 Z = true) (ws : List Jvm.Cond)  (A : Nat → Addr) (hW : own_W Z A) (h0 : Heap) (x0 : Ext Z.heap h0)  :
    own_Met l Z (⟨"com/example/hovedvilkar/hovedvilkar/Deadline$Event", "isWindow", "()Z"⟩ : MethodName) prog_27_method_6_code 1 (some .boolean) ws ({ frames := 0, cells := 0, slots := 0, locals := 0 } : Room) #[(.ref (A 4))] h0 (fun v_ h_ L_ => v_ = some (.int (0 : Int32)) ∧ Fr Z.heap.size L_ ∧ h_ = h0) := by
  refine own_body (plainFor_of_name pn_1) fun p e s m below meth c s₁ hx hby hml hown hnm hlk hrt hZ X0 e0 => ?_
  have N0 := Fr.nil Z.heap.size
  have hW' := hW
  obtain ⟨-, -, S_WRITTEN_PROCEDURE, -, -, -, -, -, -, -, -, F_WRITTEN_PROCEDURE_ordinal, -, -, F_LAST_TAP_ordinal⟩ := hW'
  refine own_go (B := s₁.setTop (mkF m 0 #[.val (.ref (A 4))] [])) (fun t k => castTop (ef_2 m (A 4)) k) ?_
  refine own_go (B := s₁.setTop (mkF m 1 #[.val (.ref (A 4))] [(.ref (A 4))])) (fun _ k => XS.aloadN X0.here hx rfl (hb hby d2_0) rfl rfl k) ?_
  obtain ⟨T1, X1, e1, st1⟩ := getS2 X0 hx hZ hown (host := "") (Or.inl (hw _ (List.mem_of_getElem? (i := 13) rfl))) Via.refl e0 (S_WRITTEN_PROCEDURE.ext x0) (g := (mkF m 1 #[.val (.ref (A 4))] [(.ref (A 4))])) rfl (hb hby d2_1)
  refine own_go (B := T1.setTop (mkF m 4 #[.val (.ref (A 4))] [(.ref (A 1)), (.ref (A 4))])) st1 ?_
  refine own_go (B := T1.setTop (mkF m 11 #[.val (.ref (A 4))] [])) (fun _ k => Jvm.RoadKit.acmp (g := (mkF m 4 #[.val (.ref (A 4))] [(.ref (A 1)), (.ref (A 4))])) X1 hx rfl rfl rfl (pc0 := 4) (pc' := 11) (same := false) rfl (hb hby d2_4) rfl (decide_eq_false fun q => (own_ne F_LAST_TAP_ordinal F_WRITTEN_PROCEDURE_ordinal (by decide)) (Value.ref.inj q)) (by decide) (by decide) k) ?_
  refine own_go (B := T1.setTop (mkF m 12 #[.val (.ref (A 4))] [(.int (0 : Int32))])) (fun _ k => XT.iconstV X1.here hx rfl (0 : Int32) (hb hby d2_11) rfl k) ?_
  exact own_ret X1 hx (t := .boolean) hrt rfl (Or.inl ⟨rfl, by simp, _, rfl⟩) (hb hby d2_12) hlk ⟨rfl, N0, e1⟩ (by decide) (by decide)
set_option maxRecDepth 65536 in
set_option maxHeartbeats 40000000 in
theorem rm1_3 (l : Launch) (Z : State) (a0 : Array Value) (hw : ∀ d ∈ tables_1, d.before a0 Z = true) (ws : List Jvm.Cond)  (A : Nat → Addr) (hW : own_W Z A) (h0 : Heap) (x0 : Ext Z.heap h0)  :
    own_Met l Z (⟨"com/example/hovedvilkar/hovedvilkar/EventIsWindowPinLaw", "pick", "(I)Lcom/example/hovedvilkar/hovedvilkar/Deadline$Event;"⟩ : MethodName) method_2_code 1 (some (.object "com/example/hovedvilkar/hovedvilkar/Deadline$Event")) ws ({ frames := 0, cells := 0, slots := 0, locals := 0 } : Room) #[(.int (3 : Int32))] h0 (fun v_ h_ L_ => v_ = some (.ref (A 2)) ∧ Fr Z.heap.size L_ ∧ h_ = h0) := by
  refine own_body (plainFor_of_name pn_0) fun p e s m below meth c s₁ hx hby hml hown hnm hlk hrt hZ X0 e0 => ?_
  have N0 := Fr.nil Z.heap.size
  have hW' := hW
  obtain ⟨-, -, -, -, S_PAYMENT_GRACE, -, -, -, -, -, -, -, -, -, -⟩ := hW'
  refine own_go (B := s₁.setTop (mkF m 0 #[.val (.int (3 : Int32))] [])) (fun t k => castTop (ef_1 m (3 : Int32)) k) ?_
  refine own_go (B := s₁.setTop (mkF m 1 #[.val (.int (3 : Int32))] [(.int (3 : Int32))])) (fun _ k => XS.iloadN X0.here hx rfl (hb hby d1_0) rfl k) ?_
  refine own_go (B := s₁.setTop (mkF m 8 #[.val (.int (3 : Int32))] [])) (fun _ k => XS.ifYes X0.here hx rfl (pc0 := 1) (pc' := 8) rfl (hb hby d1_1) rfl (by decide) (by decide) (by decide) k) ?_
  refine own_go (B := s₁.setTop (mkF m 9 #[.val (.int (3 : Int32))] [(.int (3 : Int32))])) (fun _ k => XS.iloadN X0.here hx rfl (hb hby d1_8) rfl k) ?_
  refine own_go (B := s₁.setTop (mkF m 10 #[.val (.int (3 : Int32))] [(.int (1 : Int32)), (.int (3 : Int32))])) (fun _ k => XT.iconstV X0.here hx rfl (1 : Int32) (hb hby d1_9) rfl k) ?_
  refine own_go (B := s₁.setTop (mkF m 17 #[.val (.int (3 : Int32))] [])) (fun _ k => XS.icmpYes X0.here hx rfl (pc0 := 10) (pc' := 17) rfl (hb hby d1_10) rfl (by decide) (by decide) (by decide) k) ?_
  refine own_go (B := s₁.setTop (mkF m 18 #[.val (.int (3 : Int32))] [(.int (3 : Int32))])) (fun _ k => XS.iloadN X0.here hx rfl (hb hby d1_17) rfl k) ?_
  refine own_go (B := s₁.setTop (mkF m 19 #[.val (.int (3 : Int32))] [(.int (2 : Int32)), (.int (3 : Int32))])) (fun _ k => XT.iconstV X0.here hx rfl (2 : Int32) (hb hby d1_18) rfl k) ?_
  refine own_go (B := s₁.setTop (mkF m 26 #[.val (.int (3 : Int32))] [])) (fun _ k => XS.icmpYes X0.here hx rfl (pc0 := 19) (pc' := 26) rfl (hb hby d1_19) rfl (by decide) (by decide) (by decide) k) ?_
  refine own_go (B := s₁.setTop (mkF m 27 #[.val (.int (3 : Int32))] [(.int (3 : Int32))])) (fun _ k => XS.iloadN X0.here hx rfl (hb hby d1_26) rfl k) ?_
  refine own_go (B := s₁.setTop (mkF m 28 #[.val (.int (3 : Int32))] [(.int (3 : Int32)), (.int (3 : Int32))])) (fun _ k => XT.iconstV X0.here hx rfl (3 : Int32) (hb hby d1_27) rfl k) ?_
  refine own_go (B := s₁.setTop (mkF m 31 #[.val (.int (3 : Int32))] [])) (fun _ k => XS.icmpNo X0.here hx rfl (hb hby d1_28) rfl (by decide) k) ?_
  obtain ⟨T1, X1, e1, st1⟩ := getS2 X0 hx hZ hown (host := "") (Or.inl (hw _ (List.mem_of_getElem? (i := 15) rfl))) Via.refl e0 (S_PAYMENT_GRACE.ext x0) (g := (mkF m 31 #[.val (.int (3 : Int32))] [])) rfl (hb hby d1_31)
  refine own_go (B := T1.setTop (mkF m 34 #[.val (.int (3 : Int32))] [(.ref (A 2))])) st1 ?_
  exact own_ret X1 hx (t := (.object "com/example/hovedvilkar/hovedvilkar/Deadline$Event")) hrt rfl (Or.inr (Or.inr (Or.inr (Or.inr ⟨rfl, rfl, rfl⟩)))) (hb hby d1_34) hlk ⟨rfl, N0, e1⟩ (by decide) (by decide)
set_option maxRecDepth 65536 in
set_option maxHeartbeats 40000000 in
theorem rm2_3 (l : Launch) (Z : State) (a0 : Array Value) (hw : ∀ d ∈ tables_1, d.before a0 Z = true) (ws : List Jvm.Cond)  (A : Nat → Addr) (hW : own_W Z A) (h0 : Heap) (x0 : Ext Z.heap h0)  :
    own_Met l Z (⟨"com/example/hovedvilkar/hovedvilkar/Deadline$Event", "isWindow", "()Z"⟩ : MethodName) prog_27_method_6_code 1 (some .boolean) ws ({ frames := 0, cells := 0, slots := 0, locals := 0 } : Room) #[(.ref (A 2))] h0 (fun v_ h_ L_ => v_ = some (.int (0 : Int32)) ∧ Fr Z.heap.size L_ ∧ h_ = h0) := by
  refine own_body (plainFor_of_name pn_1) fun p e s m below meth c s₁ hx hby hml hown hnm hlk hrt hZ X0 e0 => ?_
  have N0 := Fr.nil Z.heap.size
  have hW' := hW
  obtain ⟨-, -, S_WRITTEN_PROCEDURE, -, -, -, -, -, -, -, -, F_WRITTEN_PROCEDURE_ordinal, F_PAYMENT_GRACE_ordinal, -, -⟩ := hW'
  refine own_go (B := s₁.setTop (mkF m 0 #[.val (.ref (A 2))] [])) (fun t k => castTop (ef_2 m (A 2)) k) ?_
  refine own_go (B := s₁.setTop (mkF m 1 #[.val (.ref (A 2))] [(.ref (A 2))])) (fun _ k => XS.aloadN X0.here hx rfl (hb hby d2_0) rfl rfl k) ?_
  obtain ⟨T1, X1, e1, st1⟩ := getS2 X0 hx hZ hown (host := "") (Or.inl (hw _ (List.mem_of_getElem? (i := 13) rfl))) Via.refl e0 (S_WRITTEN_PROCEDURE.ext x0) (g := (mkF m 1 #[.val (.ref (A 2))] [(.ref (A 2))])) rfl (hb hby d2_1)
  refine own_go (B := T1.setTop (mkF m 4 #[.val (.ref (A 2))] [(.ref (A 1)), (.ref (A 2))])) st1 ?_
  refine own_go (B := T1.setTop (mkF m 11 #[.val (.ref (A 2))] [])) (fun _ k => Jvm.RoadKit.acmp (g := (mkF m 4 #[.val (.ref (A 2))] [(.ref (A 1)), (.ref (A 2))])) X1 hx rfl rfl rfl (pc0 := 4) (pc' := 11) (same := false) rfl (hb hby d2_4) rfl (decide_eq_false fun q => (own_ne F_PAYMENT_GRACE_ordinal F_WRITTEN_PROCEDURE_ordinal (by decide)) (Value.ref.inj q)) (by decide) (by decide) k) ?_
  refine own_go (B := T1.setTop (mkF m 12 #[.val (.ref (A 2))] [(.int (0 : Int32))])) (fun _ k => XT.iconstV X1.here hx rfl (0 : Int32) (hb hby d2_11) rfl k) ?_
  exact own_ret X1 hx (t := .boolean) hrt rfl (Or.inl ⟨rfl, by simp, _, rfl⟩) (hb hby d2_12) hlk ⟨rfl, N0, e1⟩ (by decide) (by decide)
set_option maxRecDepth 65536 in
set_option maxHeartbeats 40000000 in
theorem rm1_4 (l : Launch) (Z : State) (a0 : Array Value) (hw : ∀ d ∈ tables_1, d.before a0 Z = true) (ws : List Jvm.Cond)  (A : Nat → Addr) (hW : own_W Z A) (h0 : Heap) (x0 : Ext Z.heap h0)  :
    own_Met l Z (⟨"com/example/hovedvilkar/hovedvilkar/EventIsWindowPinLaw", "pick", "(I)Lcom/example/hovedvilkar/hovedvilkar/Deadline$Event;"⟩ : MethodName) method_2_code 1 (some (.object "com/example/hovedvilkar/hovedvilkar/Deadline$Event")) ws ({ frames := 0, cells := 0, slots := 0, locals := 0 } : Room) #[(.int (4 : Int32))] h0 (fun v_ h_ L_ => v_ = some (.ref (A 1)) ∧ Fr Z.heap.size L_ ∧ h_ = h0) := by
  refine own_body (plainFor_of_name pn_0) fun p e s m below meth c s₁ hx hby hml hown hnm hlk hrt hZ X0 e0 => ?_
  have N0 := Fr.nil Z.heap.size
  have hW' := hW
  obtain ⟨-, -, S_WRITTEN_PROCEDURE, -, -, -, -, -, -, -, -, -, -, -, -⟩ := hW'
  refine own_go (B := s₁.setTop (mkF m 0 #[.val (.int (4 : Int32))] [])) (fun t k => castTop (ef_1 m (4 : Int32)) k) ?_
  refine own_go (B := s₁.setTop (mkF m 1 #[.val (.int (4 : Int32))] [(.int (4 : Int32))])) (fun _ k => XS.iloadN X0.here hx rfl (hb hby d1_0) rfl k) ?_
  refine own_go (B := s₁.setTop (mkF m 8 #[.val (.int (4 : Int32))] [])) (fun _ k => XS.ifYes X0.here hx rfl (pc0 := 1) (pc' := 8) rfl (hb hby d1_1) rfl (by decide) (by decide) (by decide) k) ?_
  refine own_go (B := s₁.setTop (mkF m 9 #[.val (.int (4 : Int32))] [(.int (4 : Int32))])) (fun _ k => XS.iloadN X0.here hx rfl (hb hby d1_8) rfl k) ?_
  refine own_go (B := s₁.setTop (mkF m 10 #[.val (.int (4 : Int32))] [(.int (1 : Int32)), (.int (4 : Int32))])) (fun _ k => XT.iconstV X0.here hx rfl (1 : Int32) (hb hby d1_9) rfl k) ?_
  refine own_go (B := s₁.setTop (mkF m 17 #[.val (.int (4 : Int32))] [])) (fun _ k => XS.icmpYes X0.here hx rfl (pc0 := 10) (pc' := 17) rfl (hb hby d1_10) rfl (by decide) (by decide) (by decide) k) ?_
  refine own_go (B := s₁.setTop (mkF m 18 #[.val (.int (4 : Int32))] [(.int (4 : Int32))])) (fun _ k => XS.iloadN X0.here hx rfl (hb hby d1_17) rfl k) ?_
  refine own_go (B := s₁.setTop (mkF m 19 #[.val (.int (4 : Int32))] [(.int (2 : Int32)), (.int (4 : Int32))])) (fun _ k => XT.iconstV X0.here hx rfl (2 : Int32) (hb hby d1_18) rfl k) ?_
  refine own_go (B := s₁.setTop (mkF m 26 #[.val (.int (4 : Int32))] [])) (fun _ k => XS.icmpYes X0.here hx rfl (pc0 := 19) (pc' := 26) rfl (hb hby d1_19) rfl (by decide) (by decide) (by decide) k) ?_
  refine own_go (B := s₁.setTop (mkF m 27 #[.val (.int (4 : Int32))] [(.int (4 : Int32))])) (fun _ k => XS.iloadN X0.here hx rfl (hb hby d1_26) rfl k) ?_
  refine own_go (B := s₁.setTop (mkF m 28 #[.val (.int (4 : Int32))] [(.int (3 : Int32)), (.int (4 : Int32))])) (fun _ k => XT.iconstV X0.here hx rfl (3 : Int32) (hb hby d1_27) rfl k) ?_
  refine own_go (B := s₁.setTop (mkF m 35 #[.val (.int (4 : Int32))] [])) (fun _ k => XS.icmpYes X0.here hx rfl (pc0 := 28) (pc' := 35) rfl (hb hby d1_28) rfl (by decide) (by decide) (by decide) k) ?_
  obtain ⟨T1, X1, e1, st1⟩ := getS2 X0 hx hZ hown (host := "") (Or.inl (hw _ (List.mem_of_getElem? (i := 19) rfl))) Via.refl e0 (S_WRITTEN_PROCEDURE.ext x0) (g := (mkF m 35 #[.val (.int (4 : Int32))] [])) rfl (hb hby d1_35)
  refine own_go (B := T1.setTop (mkF m 38 #[.val (.int (4 : Int32))] [(.ref (A 1))])) st1 ?_
  exact own_ret X1 hx (t := (.object "com/example/hovedvilkar/hovedvilkar/Deadline$Event")) hrt rfl (Or.inr (Or.inr (Or.inr (Or.inr ⟨rfl, rfl, rfl⟩)))) (hb hby d1_38) hlk ⟨rfl, N0, e1⟩ (by decide) (by decide)
set_option maxRecDepth 65536 in
set_option maxHeartbeats 40000000 in
theorem rm2_4 (l : Launch) (Z : State) (a0 : Array Value) (hw : ∀ d ∈ tables_1, d.before a0 Z = true) (ws : List Jvm.Cond)  (A : Nat → Addr) (hW : own_W Z A) (h0 : Heap) (x0 : Ext Z.heap h0)  :
    own_Met l Z (⟨"com/example/hovedvilkar/hovedvilkar/Deadline$Event", "isWindow", "()Z"⟩ : MethodName) prog_27_method_6_code 1 (some .boolean) ws ({ frames := 0, cells := 0, slots := 0, locals := 0 } : Room) #[(.ref (A 1))] h0 (fun v_ h_ L_ => v_ = some (.int (1 : Int32)) ∧ Fr Z.heap.size L_ ∧ h_ = h0) := by
  refine own_body (plainFor_of_name pn_1) fun p e s m below meth c s₁ hx hby hml hown hnm hlk hrt hZ X0 e0 => ?_
  have N0 := Fr.nil Z.heap.size
  have hW' := hW
  obtain ⟨-, -, S_WRITTEN_PROCEDURE, -, -, -, -, -, -, -, -, -, -, -, -⟩ := hW'
  refine own_go (B := s₁.setTop (mkF m 0 #[.val (.ref (A 1))] [])) (fun t k => castTop (ef_2 m (A 1)) k) ?_
  refine own_go (B := s₁.setTop (mkF m 1 #[.val (.ref (A 1))] [(.ref (A 1))])) (fun _ k => XS.aloadN X0.here hx rfl (hb hby d2_0) rfl rfl k) ?_
  obtain ⟨T1, X1, e1, st1⟩ := getS2 X0 hx hZ hown (host := "") (Or.inl (hw _ (List.mem_of_getElem? (i := 13) rfl))) Via.refl e0 (S_WRITTEN_PROCEDURE.ext x0) (g := (mkF m 1 #[.val (.ref (A 1))] [(.ref (A 1))])) rfl (hb hby d2_1)
  refine own_go (B := T1.setTop (mkF m 4 #[.val (.ref (A 1))] [(.ref (A 1)), (.ref (A 1))])) st1 ?_
  refine own_go (B := T1.setTop (mkF m 7 #[.val (.ref (A 1))] [])) (fun _ k => Jvm.RoadKit.acmp (g := (mkF m 4 #[.val (.ref (A 1))] [(.ref (A 1)), (.ref (A 1))])) X1 hx rfl rfl rfl (pc0 := 4) (pc' := 7) (same := true) rfl (hb hby d2_4) rfl (decide_eq_true rfl) (by decide) (by decide) k) ?_
  refine own_go (B := T1.setTop (mkF m 8 #[.val (.ref (A 1))] [(.int (1 : Int32))])) (fun _ k => XT.iconstV X1.here hx rfl (1 : Int32) (hb hby d2_7) rfl k) ?_
  refine own_go (B := T1.setTop (mkF m 12 #[.val (.ref (A 1))] [(.int (1 : Int32))])) (fun _ k => XS.goto X1.here hx rfl (pc0 := 8) (pc' := 12) rfl (hb hby d2_8) (by decide) (by decide) k) ?_
  exact own_ret X1 hx (t := .boolean) hrt rfl (Or.inl ⟨rfl, by simp, _, rfl⟩) (hb hby d2_12) hlk ⟨rfl, N0, e1⟩ (by decide) (by decide)
set_option maxRecDepth 65536 in
set_option maxHeartbeats 40000000 in
theorem rm0 (l : Launch) (Z : State) (a0 : Array Value) (hw : ∀ d ∈ tables_1, d.before a0 Z = true) (ws : List Jvm.Cond) (p0 : Int32) (A : Nat → Addr) (hW : own_W Z A) (h0 : Heap) (x0 : Ext Z.heap h0)  :
    own_Met l Z x code maxLocals ret ws room_1 #[(.int p0)] h0 (fun v_ h_ L_ => v_ = some (.int (1 : Int32)) ∧ Fr Z.heap.size L_) := by
  refine own_body (plainFor_of_name pn_0) fun p e s m below meth c s₁ hx hby hml hown hnm hlk hrt hZ X0 e0 => ?_
  have N0 := Fr.nil Z.heap.size
  have hW' := hW
  obtain ⟨-, E_MEETING_NOTICE, -, E_WRITTEN_PROCEDURE, -, E_PAYMENT_GRACE, -, E_CALL_NOTICE, -, E_LAST_TAP, -, -, -, -, -⟩ := hW'
  refine own_go (B := s₁.setTop (mkF m 0 #[.val (.int p0), .unset, .unset, .unset] [])) (fun t k => castTop (ef_0 m p0) k) ?_
  refine own_go (B := s₁.setTop (mkF m 1 #[.val (.int p0), .unset, .unset, .unset] [(.int p0)])) (fun _ k => XS.iloadN X0.here hx rfl (hb hby at_0) rfl k) ?_
  refine own_go (B := s₁.setTop (mkF m 3 #[.val (.int p0), .unset, .unset, .unset] [(.int (2147483647 : Int32)), (.int p0)])) (fun _ k => Jvm.Stand.ldcI X0 hx hown (mvT hZ (hw _ (List.mem_of_getElem? (i := 0) rfl))) (g := (mkF m 1 #[.val (.int p0), .unset, .unset, .unset] [(.int p0)])) rfl (hb hby at_1) k) ?_
  refine own_go (B := s₁.setTop (mkF m 4 #[.val (.int p0), .unset, .unset, .unset] [(.int (p0 &&& (2147483647 : Int32)))])) (fun _ k => XS.iand X0.here hx rfl (hb hby at_3) rfl k) ?_
  refine own_go (B := s₁.setTop (mkF m 5 #[.val (.int p0), .unset, .unset, .unset] [(.int (5 : Int32)), (.int (p0 &&& (2147483647 : Int32)))])) (fun _ k => XT.iconstV X0.here hx rfl (5 : Int32) (hb hby at_4) rfl k) ?_
  refine own_go (B := s₁.setTop (mkF m 6 #[.val (.int p0), .unset, .unset, .unset] [(.int ((p0 &&& (2147483647 : Int32)) % (5 : Int32)))])) (fun _ k => iremM (g := (mkF m 5 #[.val (.int p0), .unset, .unset, .unset] [(.int (5 : Int32)), (.int (p0 &&& (2147483647 : Int32)))])) X0 hx rfl (hb hby at_5) rfl (by decide) k) ?_
  refine own_go (B := s₁.setTop (mkF m 7 #[.val (.int p0), .val (.int ((p0 &&& (2147483647 : Int32)) % (5 : Int32))), .unset, .unset] [])) (fun _ k => XS.istoreN X0.here hx rfl (hb hby at_6) rfl (l' := #[.val (.int p0), .val (.int ((p0 &&& (2147483647 : Int32)) % (5 : Int32))), .unset, .unset]) rfl k) ?_
  obtain ⟨ip0, hip0⟩ : ∃ z : Int32, ((p0 &&& (2147483647 : Int32)) % (5 : Int32)) = z := ⟨_, rfl⟩
  rw [hip0]
  have hcs := own_c5 p0
  rw [hip0] at hcs
  rcases hcs with rfl | rfl | rfl | rfl | rfl
  · refine own_go (B := s₁.setTop (mkF m 8 #[.val (.int p0), .val (.int (0 : Int32)), .unset, .unset] [(.int (0 : Int32))])) (fun _ k => XS.iloadN X0.here hx rfl (hb hby at_7) rfl k) ?_
    obtain ⟨_, _, ⟨T1, L1, k1, n1⟩, -, X1, ⟨Lc1, hQ1, l1, y1, z1⟩, st1⟩ := Jvm.LawKit.callS X0 hx (y := (⟨"com/example/hovedvilkar/hovedvilkar/EventIsWindowPinLaw", "pick", "(I)Lcom/example/hovedvilkar/hovedvilkar/Deadline$Event;"⟩ : MethodName)) hown (mvT hZ (hw _ (List.mem_of_getElem? (i := 1) rfl))) (mvT hZ (hw _ (List.mem_of_getElem? (i := 2) rfl))) (mvT hZ (hw _ (List.mem_of_getElem? (i := 3) rfl))) (mvT hZ (hw _ (List.mem_of_getElem? (i := 4) rfl))) (by decide) (own_back (W := 0) (rm1_0 l Z a0 hw []  A hW h0 x0 ) hZ (hw _ (List.mem_of_getElem? (i := 4) rfl)) (hw _ (List.mem_of_getElem? (i := 3) rfl)) (by decide) (by decide)) (g := (mkF m 8 #[.val (.int p0), .val (.int (0 : Int32)), .unset, .unset] [(.int (0 : Int32))])) rfl (by rw [hml]; rfl) (argsL := [(.int (0 : Int32))]) (rest := []) (lenOf pd_0 rfl) rfl (by show 2 * 0 + _ ≤ _; exact Nat.le_of_eq rfl) (hb hby at_8) (fun _ _ => ⟨rfl, e0, (by decide : 0 + 0 ≤ _), (by decide : 0 + 0 ≤ _)⟩)
    dsimp only [Pt.U, Pt.locs, Pt.cells, Pt.slots] at X1 l1 y1 z1 st1 hQ1
    subst l1 y1 z1
    obtain ⟨rfl, N1q, e1⟩ := hQ1
    have N1 := Fr.app N0 N1q
    refine own_go (B := T1.setTop (mkF m 11 #[.val (.int p0), .val (.int (0 : Int32)), .unset, .unset] [(.ref (A 0))])) st1 ?_
    refine own_go (B := T1.setTop (mkF m 12 #[.val (.int p0), .val (.int (0 : Int32)), .val (.ref (A 0)), .unset] [])) (fun _ k => XS.astoreN X1.here hx rfl (hb hby at_11) rfl rfl (l' := #[.val (.int p0), .val (.int (0 : Int32)), .val (.ref (A 0)), .unset]) rfl k) ?_
    refine own_go (B := T1.setTop (mkF m 13 #[.val (.int p0), .val (.int (0 : Int32)), .val (.ref (A 0)), .unset] [(.int (0 : Int32))])) (fun _ k => XS.iloadN X1.here hx rfl (hb hby at_12) rfl k) ?_
    refine own_go (B := T1.setTop (mkF m 14 #[.val (.int p0), .val (.int (0 : Int32)), .val (.ref (A 0)), .unset] [(.int (4 : Int32)), (.int (0 : Int32))])) (fun _ k => XT.iconstV X1.here hx rfl (4 : Int32) (hb hby at_13) rfl k) ?_
    refine own_go (B := T1.setTop (mkF m 21 #[.val (.int p0), .val (.int (0 : Int32)), .val (.ref (A 0)), .unset] [])) (fun _ k => XS.icmpYes X1.here hx rfl (pc0 := 14) (pc' := 21) rfl (hb hby at_14) rfl (by decide) (by decide) (by decide) k) ?_
    refine own_go (B := T1.setTop (mkF m 22 #[.val (.int p0), .val (.int (0 : Int32)), .val (.ref (A 0)), .unset] [(.int (0 : Int32))])) (fun _ k => XT.iconstV X1.here hx rfl (0 : Int32) (hb hby at_21) rfl k) ?_
    refine own_go (B := T1.setTop (mkF m 23 #[.val (.int p0), .val (.int (0 : Int32)), .val (.ref (A 0)), .val (.int (0 : Int32))] [])) (fun _ k => XS.istoreN X1.here hx rfl (hb hby at_22) rfl (l' := #[.val (.int p0), .val (.int (0 : Int32)), .val (.ref (A 0)), .val (.int (0 : Int32))]) rfl k) ?_
    refine own_go (B := T1.setTop (mkF m 24 #[.val (.int p0), .val (.int (0 : Int32)), .val (.ref (A 0)), .val (.int (0 : Int32))] [(.ref (A 0))])) (fun _ k => XS.aloadN X1.here hx rfl (hb hby at_23) rfl rfl k) ?_
    obtain ⟨cq2, kq2, q2a, q2b, q2c⟩ := isOf hZ e1 (E_MEETING_NOTICE.ext x0)
    obtain ⟨_, _, ⟨T2, L2, k2, n2⟩, -, X2, ⟨Lc2, hQ2, l2, y2, z2⟩, st2⟩ := X1.virtualBack hx (y := (⟨"com/example/hovedvilkar/hovedvilkar/Deadline$Event", "isWindow", "()Z"⟩ : MethodName)) (z := (⟨"com/example/hovedvilkar/hovedvilkar/Deadline$Event", "isWindow", "()Z"⟩ : MethodName)) hown (mvT hZ (hw _ (List.mem_of_getElem? (i := 8) rfl))) (mvT hZ (hw _ (List.mem_of_getElem? (i := 9) rfl))) (notFace_of_selects (args := #[]) (mvT hZ (hw _ (List.mem_of_getElem? (i := 11) rfl)))) (mvT hZ (hw _ (List.mem_of_getElem? (i := 11) rfl))) (mvT hZ (hw _ (List.mem_of_getElem? (i := 10) rfl))) (by decide) (own_back (W := 0) (rm2_0 l Z a0 hw []  A hW h0 x0 ) hZ (hw _ (List.mem_of_getElem? (i := 12) rfl)) (hw _ (List.mem_of_getElem? (i := 6) rfl)) (by decide) (by decide)) q2a q2c (g := (mkF m 24 #[.val (.int p0), .val (.int (0 : Int32)), .val (.ref (A 0)), .val (.int (0 : Int32))] [(.ref (A 0))])) rfl (by rw [hml]; rfl) (Steps.refl _) (argsL := []) (rest := []) (lenOf pd_1 rfl) rfl (by show 2 * 0 + _ ≤ _; exact Nat.le_of_eq rfl) (hb hby at_24) (fun _ _ => ⟨rfl, e1, (by decide : 0 + 0 ≤ _), (by decide : 0 + 0 ≤ _)⟩)
    dsimp only [Pt.U, Pt.locs, Pt.cells, Pt.slots] at X2 l2 y2 z2 st2 hQ2
    subst l2 y2 z2
    obtain ⟨rfl, N2q, e2⟩ := hQ2
    have N2 := Fr.app N1 N2q
    refine own_go (B := T2.setTop (mkF m 27 #[.val (.int p0), .val (.int (0 : Int32)), .val (.ref (A 0)), .val (.int (0 : Int32))] [(.int (0 : Int32))])) (fun _ k => st2.trans k) ?_
    refine own_go (B := T2.setTop (mkF m 28 #[.val (.int p0), .val (.int (0 : Int32)), .val (.ref (A 0)), .val (.int (0 : Int32))] [(.int (0 : Int32)), (.int (0 : Int32))])) (fun _ k => XS.iloadN X2.here hx rfl (hb hby at_27) rfl k) ?_
    refine own_go (B := T2.setTop (mkF m 31 #[.val (.int p0), .val (.int (0 : Int32)), .val (.ref (A 0)), .val (.int (0 : Int32))] [])) (fun _ k => XS.icmpNo X2.here hx rfl (hb hby at_28) rfl (by decide) k) ?_
    refine own_go (B := T2.setTop (mkF m 32 #[.val (.int p0), .val (.int (0 : Int32)), .val (.ref (A 0)), .val (.int (0 : Int32))] [(.int (1 : Int32))])) (fun _ k => XT.iconstV X2.here hx rfl (1 : Int32) (hb hby at_31) rfl k) ?_
    refine own_go (B := T2.setTop (mkF m 36 #[.val (.int p0), .val (.int (0 : Int32)), .val (.ref (A 0)), .val (.int (0 : Int32))] [(.int (1 : Int32))])) (fun _ k => XS.goto X2.here hx rfl (pc0 := 32) (pc' := 36) rfl (hb hby at_32) (by decide) (by decide) k) ?_
    exact own_ret X2 hx (t := .boolean) hrt rfl (Or.inl ⟨rfl, by simp, _, rfl⟩) (hb hby at_36) hlk ⟨rfl, N2⟩ (by decide) (by decide)
  · refine own_go (B := s₁.setTop (mkF m 8 #[.val (.int p0), .val (.int (1 : Int32)), .unset, .unset] [(.int (1 : Int32))])) (fun _ k => XS.iloadN X0.here hx rfl (hb hby at_7) rfl k) ?_
    obtain ⟨_, _, ⟨T3, L3, k3, n3⟩, -, X3, ⟨Lc3, hQ3, l3, y3, z3⟩, st3⟩ := Jvm.LawKit.callS X0 hx (y := (⟨"com/example/hovedvilkar/hovedvilkar/EventIsWindowPinLaw", "pick", "(I)Lcom/example/hovedvilkar/hovedvilkar/Deadline$Event;"⟩ : MethodName)) hown (mvT hZ (hw _ (List.mem_of_getElem? (i := 1) rfl))) (mvT hZ (hw _ (List.mem_of_getElem? (i := 2) rfl))) (mvT hZ (hw _ (List.mem_of_getElem? (i := 3) rfl))) (mvT hZ (hw _ (List.mem_of_getElem? (i := 4) rfl))) (by decide) (own_back (W := 0) (rm1_1 l Z a0 hw []  A hW h0 x0 ) hZ (hw _ (List.mem_of_getElem? (i := 4) rfl)) (hw _ (List.mem_of_getElem? (i := 3) rfl)) (by decide) (by decide)) (g := (mkF m 8 #[.val (.int p0), .val (.int (1 : Int32)), .unset, .unset] [(.int (1 : Int32))])) rfl (by rw [hml]; rfl) (argsL := [(.int (1 : Int32))]) (rest := []) (lenOf pd_0 rfl) rfl (by show 2 * 0 + _ ≤ _; exact Nat.le_of_eq rfl) (hb hby at_8) (fun _ _ => ⟨rfl, e0, (by decide : 0 + 0 ≤ _), (by decide : 0 + 0 ≤ _)⟩)
    dsimp only [Pt.U, Pt.locs, Pt.cells, Pt.slots] at X3 l3 y3 z3 st3 hQ3
    subst l3 y3 z3
    obtain ⟨rfl, N3q, e3⟩ := hQ3
    have N3 := Fr.app N0 N3q
    refine own_go (B := T3.setTop (mkF m 11 #[.val (.int p0), .val (.int (1 : Int32)), .unset, .unset] [(.ref (A 3))])) st3 ?_
    refine own_go (B := T3.setTop (mkF m 12 #[.val (.int p0), .val (.int (1 : Int32)), .val (.ref (A 3)), .unset] [])) (fun _ k => XS.astoreN X3.here hx rfl (hb hby at_11) rfl rfl (l' := #[.val (.int p0), .val (.int (1 : Int32)), .val (.ref (A 3)), .unset]) rfl k) ?_
    refine own_go (B := T3.setTop (mkF m 13 #[.val (.int p0), .val (.int (1 : Int32)), .val (.ref (A 3)), .unset] [(.int (1 : Int32))])) (fun _ k => XS.iloadN X3.here hx rfl (hb hby at_12) rfl k) ?_
    refine own_go (B := T3.setTop (mkF m 14 #[.val (.int p0), .val (.int (1 : Int32)), .val (.ref (A 3)), .unset] [(.int (4 : Int32)), (.int (1 : Int32))])) (fun _ k => XT.iconstV X3.here hx rfl (4 : Int32) (hb hby at_13) rfl k) ?_
    refine own_go (B := T3.setTop (mkF m 21 #[.val (.int p0), .val (.int (1 : Int32)), .val (.ref (A 3)), .unset] [])) (fun _ k => XS.icmpYes X3.here hx rfl (pc0 := 14) (pc' := 21) rfl (hb hby at_14) rfl (by decide) (by decide) (by decide) k) ?_
    refine own_go (B := T3.setTop (mkF m 22 #[.val (.int p0), .val (.int (1 : Int32)), .val (.ref (A 3)), .unset] [(.int (0 : Int32))])) (fun _ k => XT.iconstV X3.here hx rfl (0 : Int32) (hb hby at_21) rfl k) ?_
    refine own_go (B := T3.setTop (mkF m 23 #[.val (.int p0), .val (.int (1 : Int32)), .val (.ref (A 3)), .val (.int (0 : Int32))] [])) (fun _ k => XS.istoreN X3.here hx rfl (hb hby at_22) rfl (l' := #[.val (.int p0), .val (.int (1 : Int32)), .val (.ref (A 3)), .val (.int (0 : Int32))]) rfl k) ?_
    refine own_go (B := T3.setTop (mkF m 24 #[.val (.int p0), .val (.int (1 : Int32)), .val (.ref (A 3)), .val (.int (0 : Int32))] [(.ref (A 3))])) (fun _ k => XS.aloadN X3.here hx rfl (hb hby at_23) rfl rfl k) ?_
    obtain ⟨cq4, kq4, q4a, q4b, q4c⟩ := isOf hZ e3 (E_CALL_NOTICE.ext x0)
    obtain ⟨_, _, ⟨T4, L4, k4, n4⟩, -, X4, ⟨Lc4, hQ4, l4, y4, z4⟩, st4⟩ := X3.virtualBack hx (y := (⟨"com/example/hovedvilkar/hovedvilkar/Deadline$Event", "isWindow", "()Z"⟩ : MethodName)) (z := (⟨"com/example/hovedvilkar/hovedvilkar/Deadline$Event", "isWindow", "()Z"⟩ : MethodName)) hown (mvT hZ (hw _ (List.mem_of_getElem? (i := 8) rfl))) (mvT hZ (hw _ (List.mem_of_getElem? (i := 9) rfl))) (notFace_of_selects (args := #[]) (mvT hZ (hw _ (List.mem_of_getElem? (i := 11) rfl)))) (mvT hZ (hw _ (List.mem_of_getElem? (i := 11) rfl))) (mvT hZ (hw _ (List.mem_of_getElem? (i := 10) rfl))) (by decide) (own_back (W := 0) (rm2_1 l Z a0 hw []  A hW h0 x0 ) hZ (hw _ (List.mem_of_getElem? (i := 12) rfl)) (hw _ (List.mem_of_getElem? (i := 6) rfl)) (by decide) (by decide)) q4a q4c (g := (mkF m 24 #[.val (.int p0), .val (.int (1 : Int32)), .val (.ref (A 3)), .val (.int (0 : Int32))] [(.ref (A 3))])) rfl (by rw [hml]; rfl) (Steps.refl _) (argsL := []) (rest := []) (lenOf pd_1 rfl) rfl (by show 2 * 0 + _ ≤ _; exact Nat.le_of_eq rfl) (hb hby at_24) (fun _ _ => ⟨rfl, e3, (by decide : 0 + 0 ≤ _), (by decide : 0 + 0 ≤ _)⟩)
    dsimp only [Pt.U, Pt.locs, Pt.cells, Pt.slots] at X4 l4 y4 z4 st4 hQ4
    subst l4 y4 z4
    obtain ⟨rfl, N4q, e4⟩ := hQ4
    have N4 := Fr.app N3 N4q
    refine own_go (B := T4.setTop (mkF m 27 #[.val (.int p0), .val (.int (1 : Int32)), .val (.ref (A 3)), .val (.int (0 : Int32))] [(.int (0 : Int32))])) (fun _ k => st4.trans k) ?_
    refine own_go (B := T4.setTop (mkF m 28 #[.val (.int p0), .val (.int (1 : Int32)), .val (.ref (A 3)), .val (.int (0 : Int32))] [(.int (0 : Int32)), (.int (0 : Int32))])) (fun _ k => XS.iloadN X4.here hx rfl (hb hby at_27) rfl k) ?_
    refine own_go (B := T4.setTop (mkF m 31 #[.val (.int p0), .val (.int (1 : Int32)), .val (.ref (A 3)), .val (.int (0 : Int32))] [])) (fun _ k => XS.icmpNo X4.here hx rfl (hb hby at_28) rfl (by decide) k) ?_
    refine own_go (B := T4.setTop (mkF m 32 #[.val (.int p0), .val (.int (1 : Int32)), .val (.ref (A 3)), .val (.int (0 : Int32))] [(.int (1 : Int32))])) (fun _ k => XT.iconstV X4.here hx rfl (1 : Int32) (hb hby at_31) rfl k) ?_
    refine own_go (B := T4.setTop (mkF m 36 #[.val (.int p0), .val (.int (1 : Int32)), .val (.ref (A 3)), .val (.int (0 : Int32))] [(.int (1 : Int32))])) (fun _ k => XS.goto X4.here hx rfl (pc0 := 32) (pc' := 36) rfl (hb hby at_32) (by decide) (by decide) k) ?_
    exact own_ret X4 hx (t := .boolean) hrt rfl (Or.inl ⟨rfl, by simp, _, rfl⟩) (hb hby at_36) hlk ⟨rfl, N4⟩ (by decide) (by decide)
  · refine own_go (B := s₁.setTop (mkF m 8 #[.val (.int p0), .val (.int (2 : Int32)), .unset, .unset] [(.int (2 : Int32))])) (fun _ k => XS.iloadN X0.here hx rfl (hb hby at_7) rfl k) ?_
    obtain ⟨_, _, ⟨T5, L5, k5, n5⟩, -, X5, ⟨Lc5, hQ5, l5, y5, z5⟩, st5⟩ := Jvm.LawKit.callS X0 hx (y := (⟨"com/example/hovedvilkar/hovedvilkar/EventIsWindowPinLaw", "pick", "(I)Lcom/example/hovedvilkar/hovedvilkar/Deadline$Event;"⟩ : MethodName)) hown (mvT hZ (hw _ (List.mem_of_getElem? (i := 1) rfl))) (mvT hZ (hw _ (List.mem_of_getElem? (i := 2) rfl))) (mvT hZ (hw _ (List.mem_of_getElem? (i := 3) rfl))) (mvT hZ (hw _ (List.mem_of_getElem? (i := 4) rfl))) (by decide) (own_back (W := 0) (rm1_2 l Z a0 hw []  A hW h0 x0 ) hZ (hw _ (List.mem_of_getElem? (i := 4) rfl)) (hw _ (List.mem_of_getElem? (i := 3) rfl)) (by decide) (by decide)) (g := (mkF m 8 #[.val (.int p0), .val (.int (2 : Int32)), .unset, .unset] [(.int (2 : Int32))])) rfl (by rw [hml]; rfl) (argsL := [(.int (2 : Int32))]) (rest := []) (lenOf pd_0 rfl) rfl (by show 2 * 0 + _ ≤ _; exact Nat.le_of_eq rfl) (hb hby at_8) (fun _ _ => ⟨rfl, e0, (by decide : 0 + 0 ≤ _), (by decide : 0 + 0 ≤ _)⟩)
    dsimp only [Pt.U, Pt.locs, Pt.cells, Pt.slots] at X5 l5 y5 z5 st5 hQ5
    subst l5 y5 z5
    obtain ⟨rfl, N5q, e5⟩ := hQ5
    have N5 := Fr.app N0 N5q
    refine own_go (B := T5.setTop (mkF m 11 #[.val (.int p0), .val (.int (2 : Int32)), .unset, .unset] [(.ref (A 4))])) st5 ?_
    refine own_go (B := T5.setTop (mkF m 12 #[.val (.int p0), .val (.int (2 : Int32)), .val (.ref (A 4)), .unset] [])) (fun _ k => XS.astoreN X5.here hx rfl (hb hby at_11) rfl rfl (l' := #[.val (.int p0), .val (.int (2 : Int32)), .val (.ref (A 4)), .unset]) rfl k) ?_
    refine own_go (B := T5.setTop (mkF m 13 #[.val (.int p0), .val (.int (2 : Int32)), .val (.ref (A 4)), .unset] [(.int (2 : Int32))])) (fun _ k => XS.iloadN X5.here hx rfl (hb hby at_12) rfl k) ?_
    refine own_go (B := T5.setTop (mkF m 14 #[.val (.int p0), .val (.int (2 : Int32)), .val (.ref (A 4)), .unset] [(.int (4 : Int32)), (.int (2 : Int32))])) (fun _ k => XT.iconstV X5.here hx rfl (4 : Int32) (hb hby at_13) rfl k) ?_
    refine own_go (B := T5.setTop (mkF m 21 #[.val (.int p0), .val (.int (2 : Int32)), .val (.ref (A 4)), .unset] [])) (fun _ k => XS.icmpYes X5.here hx rfl (pc0 := 14) (pc' := 21) rfl (hb hby at_14) rfl (by decide) (by decide) (by decide) k) ?_
    refine own_go (B := T5.setTop (mkF m 22 #[.val (.int p0), .val (.int (2 : Int32)), .val (.ref (A 4)), .unset] [(.int (0 : Int32))])) (fun _ k => XT.iconstV X5.here hx rfl (0 : Int32) (hb hby at_21) rfl k) ?_
    refine own_go (B := T5.setTop (mkF m 23 #[.val (.int p0), .val (.int (2 : Int32)), .val (.ref (A 4)), .val (.int (0 : Int32))] [])) (fun _ k => XS.istoreN X5.here hx rfl (hb hby at_22) rfl (l' := #[.val (.int p0), .val (.int (2 : Int32)), .val (.ref (A 4)), .val (.int (0 : Int32))]) rfl k) ?_
    refine own_go (B := T5.setTop (mkF m 24 #[.val (.int p0), .val (.int (2 : Int32)), .val (.ref (A 4)), .val (.int (0 : Int32))] [(.ref (A 4))])) (fun _ k => XS.aloadN X5.here hx rfl (hb hby at_23) rfl rfl k) ?_
    obtain ⟨cq6, kq6, q6a, q6b, q6c⟩ := isOf hZ e5 (E_LAST_TAP.ext x0)
    obtain ⟨_, _, ⟨T6, L6, k6, n6⟩, -, X6, ⟨Lc6, hQ6, l6, y6, z6⟩, st6⟩ := X5.virtualBack hx (y := (⟨"com/example/hovedvilkar/hovedvilkar/Deadline$Event", "isWindow", "()Z"⟩ : MethodName)) (z := (⟨"com/example/hovedvilkar/hovedvilkar/Deadline$Event", "isWindow", "()Z"⟩ : MethodName)) hown (mvT hZ (hw _ (List.mem_of_getElem? (i := 8) rfl))) (mvT hZ (hw _ (List.mem_of_getElem? (i := 9) rfl))) (notFace_of_selects (args := #[]) (mvT hZ (hw _ (List.mem_of_getElem? (i := 11) rfl)))) (mvT hZ (hw _ (List.mem_of_getElem? (i := 11) rfl))) (mvT hZ (hw _ (List.mem_of_getElem? (i := 10) rfl))) (by decide) (own_back (W := 0) (rm2_2 l Z a0 hw []  A hW h0 x0 ) hZ (hw _ (List.mem_of_getElem? (i := 12) rfl)) (hw _ (List.mem_of_getElem? (i := 6) rfl)) (by decide) (by decide)) q6a q6c (g := (mkF m 24 #[.val (.int p0), .val (.int (2 : Int32)), .val (.ref (A 4)), .val (.int (0 : Int32))] [(.ref (A 4))])) rfl (by rw [hml]; rfl) (Steps.refl _) (argsL := []) (rest := []) (lenOf pd_1 rfl) rfl (by show 2 * 0 + _ ≤ _; exact Nat.le_of_eq rfl) (hb hby at_24) (fun _ _ => ⟨rfl, e5, (by decide : 0 + 0 ≤ _), (by decide : 0 + 0 ≤ _)⟩)
    dsimp only [Pt.U, Pt.locs, Pt.cells, Pt.slots] at X6 l6 y6 z6 st6 hQ6
    subst l6 y6 z6
    obtain ⟨rfl, N6q, e6⟩ := hQ6
    have N6 := Fr.app N5 N6q
    refine own_go (B := T6.setTop (mkF m 27 #[.val (.int p0), .val (.int (2 : Int32)), .val (.ref (A 4)), .val (.int (0 : Int32))] [(.int (0 : Int32))])) (fun _ k => st6.trans k) ?_
    refine own_go (B := T6.setTop (mkF m 28 #[.val (.int p0), .val (.int (2 : Int32)), .val (.ref (A 4)), .val (.int (0 : Int32))] [(.int (0 : Int32)), (.int (0 : Int32))])) (fun _ k => XS.iloadN X6.here hx rfl (hb hby at_27) rfl k) ?_
    refine own_go (B := T6.setTop (mkF m 31 #[.val (.int p0), .val (.int (2 : Int32)), .val (.ref (A 4)), .val (.int (0 : Int32))] [])) (fun _ k => XS.icmpNo X6.here hx rfl (hb hby at_28) rfl (by decide) k) ?_
    refine own_go (B := T6.setTop (mkF m 32 #[.val (.int p0), .val (.int (2 : Int32)), .val (.ref (A 4)), .val (.int (0 : Int32))] [(.int (1 : Int32))])) (fun _ k => XT.iconstV X6.here hx rfl (1 : Int32) (hb hby at_31) rfl k) ?_
    refine own_go (B := T6.setTop (mkF m 36 #[.val (.int p0), .val (.int (2 : Int32)), .val (.ref (A 4)), .val (.int (0 : Int32))] [(.int (1 : Int32))])) (fun _ k => XS.goto X6.here hx rfl (pc0 := 32) (pc' := 36) rfl (hb hby at_32) (by decide) (by decide) k) ?_
    exact own_ret X6 hx (t := .boolean) hrt rfl (Or.inl ⟨rfl, by simp, _, rfl⟩) (hb hby at_36) hlk ⟨rfl, N6⟩ (by decide) (by decide)
  · refine own_go (B := s₁.setTop (mkF m 8 #[.val (.int p0), .val (.int (3 : Int32)), .unset, .unset] [(.int (3 : Int32))])) (fun _ k => XS.iloadN X0.here hx rfl (hb hby at_7) rfl k) ?_
    obtain ⟨_, _, ⟨T7, L7, k7, n7⟩, -, X7, ⟨Lc7, hQ7, l7, y7, z7⟩, st7⟩ := Jvm.LawKit.callS X0 hx (y := (⟨"com/example/hovedvilkar/hovedvilkar/EventIsWindowPinLaw", "pick", "(I)Lcom/example/hovedvilkar/hovedvilkar/Deadline$Event;"⟩ : MethodName)) hown (mvT hZ (hw _ (List.mem_of_getElem? (i := 1) rfl))) (mvT hZ (hw _ (List.mem_of_getElem? (i := 2) rfl))) (mvT hZ (hw _ (List.mem_of_getElem? (i := 3) rfl))) (mvT hZ (hw _ (List.mem_of_getElem? (i := 4) rfl))) (by decide) (own_back (W := 0) (rm1_3 l Z a0 hw []  A hW h0 x0 ) hZ (hw _ (List.mem_of_getElem? (i := 4) rfl)) (hw _ (List.mem_of_getElem? (i := 3) rfl)) (by decide) (by decide)) (g := (mkF m 8 #[.val (.int p0), .val (.int (3 : Int32)), .unset, .unset] [(.int (3 : Int32))])) rfl (by rw [hml]; rfl) (argsL := [(.int (3 : Int32))]) (rest := []) (lenOf pd_0 rfl) rfl (by show 2 * 0 + _ ≤ _; exact Nat.le_of_eq rfl) (hb hby at_8) (fun _ _ => ⟨rfl, e0, (by decide : 0 + 0 ≤ _), (by decide : 0 + 0 ≤ _)⟩)
    dsimp only [Pt.U, Pt.locs, Pt.cells, Pt.slots] at X7 l7 y7 z7 st7 hQ7
    subst l7 y7 z7
    obtain ⟨rfl, N7q, e7⟩ := hQ7
    have N7 := Fr.app N0 N7q
    refine own_go (B := T7.setTop (mkF m 11 #[.val (.int p0), .val (.int (3 : Int32)), .unset, .unset] [(.ref (A 2))])) st7 ?_
    refine own_go (B := T7.setTop (mkF m 12 #[.val (.int p0), .val (.int (3 : Int32)), .val (.ref (A 2)), .unset] [])) (fun _ k => XS.astoreN X7.here hx rfl (hb hby at_11) rfl rfl (l' := #[.val (.int p0), .val (.int (3 : Int32)), .val (.ref (A 2)), .unset]) rfl k) ?_
    refine own_go (B := T7.setTop (mkF m 13 #[.val (.int p0), .val (.int (3 : Int32)), .val (.ref (A 2)), .unset] [(.int (3 : Int32))])) (fun _ k => XS.iloadN X7.here hx rfl (hb hby at_12) rfl k) ?_
    refine own_go (B := T7.setTop (mkF m 14 #[.val (.int p0), .val (.int (3 : Int32)), .val (.ref (A 2)), .unset] [(.int (4 : Int32)), (.int (3 : Int32))])) (fun _ k => XT.iconstV X7.here hx rfl (4 : Int32) (hb hby at_13) rfl k) ?_
    refine own_go (B := T7.setTop (mkF m 21 #[.val (.int p0), .val (.int (3 : Int32)), .val (.ref (A 2)), .unset] [])) (fun _ k => XS.icmpYes X7.here hx rfl (pc0 := 14) (pc' := 21) rfl (hb hby at_14) rfl (by decide) (by decide) (by decide) k) ?_
    refine own_go (B := T7.setTop (mkF m 22 #[.val (.int p0), .val (.int (3 : Int32)), .val (.ref (A 2)), .unset] [(.int (0 : Int32))])) (fun _ k => XT.iconstV X7.here hx rfl (0 : Int32) (hb hby at_21) rfl k) ?_
    refine own_go (B := T7.setTop (mkF m 23 #[.val (.int p0), .val (.int (3 : Int32)), .val (.ref (A 2)), .val (.int (0 : Int32))] [])) (fun _ k => XS.istoreN X7.here hx rfl (hb hby at_22) rfl (l' := #[.val (.int p0), .val (.int (3 : Int32)), .val (.ref (A 2)), .val (.int (0 : Int32))]) rfl k) ?_
    refine own_go (B := T7.setTop (mkF m 24 #[.val (.int p0), .val (.int (3 : Int32)), .val (.ref (A 2)), .val (.int (0 : Int32))] [(.ref (A 2))])) (fun _ k => XS.aloadN X7.here hx rfl (hb hby at_23) rfl rfl k) ?_
    obtain ⟨cq8, kq8, q8a, q8b, q8c⟩ := isOf hZ e7 (E_PAYMENT_GRACE.ext x0)
    obtain ⟨_, _, ⟨T8, L8, k8, n8⟩, -, X8, ⟨Lc8, hQ8, l8, y8, z8⟩, st8⟩ := X7.virtualBack hx (y := (⟨"com/example/hovedvilkar/hovedvilkar/Deadline$Event", "isWindow", "()Z"⟩ : MethodName)) (z := (⟨"com/example/hovedvilkar/hovedvilkar/Deadline$Event", "isWindow", "()Z"⟩ : MethodName)) hown (mvT hZ (hw _ (List.mem_of_getElem? (i := 8) rfl))) (mvT hZ (hw _ (List.mem_of_getElem? (i := 9) rfl))) (notFace_of_selects (args := #[]) (mvT hZ (hw _ (List.mem_of_getElem? (i := 11) rfl)))) (mvT hZ (hw _ (List.mem_of_getElem? (i := 11) rfl))) (mvT hZ (hw _ (List.mem_of_getElem? (i := 10) rfl))) (by decide) (own_back (W := 0) (rm2_3 l Z a0 hw []  A hW h0 x0 ) hZ (hw _ (List.mem_of_getElem? (i := 12) rfl)) (hw _ (List.mem_of_getElem? (i := 6) rfl)) (by decide) (by decide)) q8a q8c (g := (mkF m 24 #[.val (.int p0), .val (.int (3 : Int32)), .val (.ref (A 2)), .val (.int (0 : Int32))] [(.ref (A 2))])) rfl (by rw [hml]; rfl) (Steps.refl _) (argsL := []) (rest := []) (lenOf pd_1 rfl) rfl (by show 2 * 0 + _ ≤ _; exact Nat.le_of_eq rfl) (hb hby at_24) (fun _ _ => ⟨rfl, e7, (by decide : 0 + 0 ≤ _), (by decide : 0 + 0 ≤ _)⟩)
    dsimp only [Pt.U, Pt.locs, Pt.cells, Pt.slots] at X8 l8 y8 z8 st8 hQ8
    subst l8 y8 z8
    obtain ⟨rfl, N8q, e8⟩ := hQ8
    have N8 := Fr.app N7 N8q
    refine own_go (B := T8.setTop (mkF m 27 #[.val (.int p0), .val (.int (3 : Int32)), .val (.ref (A 2)), .val (.int (0 : Int32))] [(.int (0 : Int32))])) (fun _ k => st8.trans k) ?_
    refine own_go (B := T8.setTop (mkF m 28 #[.val (.int p0), .val (.int (3 : Int32)), .val (.ref (A 2)), .val (.int (0 : Int32))] [(.int (0 : Int32)), (.int (0 : Int32))])) (fun _ k => XS.iloadN X8.here hx rfl (hb hby at_27) rfl k) ?_
    refine own_go (B := T8.setTop (mkF m 31 #[.val (.int p0), .val (.int (3 : Int32)), .val (.ref (A 2)), .val (.int (0 : Int32))] [])) (fun _ k => XS.icmpNo X8.here hx rfl (hb hby at_28) rfl (by decide) k) ?_
    refine own_go (B := T8.setTop (mkF m 32 #[.val (.int p0), .val (.int (3 : Int32)), .val (.ref (A 2)), .val (.int (0 : Int32))] [(.int (1 : Int32))])) (fun _ k => XT.iconstV X8.here hx rfl (1 : Int32) (hb hby at_31) rfl k) ?_
    refine own_go (B := T8.setTop (mkF m 36 #[.val (.int p0), .val (.int (3 : Int32)), .val (.ref (A 2)), .val (.int (0 : Int32))] [(.int (1 : Int32))])) (fun _ k => XS.goto X8.here hx rfl (pc0 := 32) (pc' := 36) rfl (hb hby at_32) (by decide) (by decide) k) ?_
    exact own_ret X8 hx (t := .boolean) hrt rfl (Or.inl ⟨rfl, by simp, _, rfl⟩) (hb hby at_36) hlk ⟨rfl, N8⟩ (by decide) (by decide)
  · refine own_go (B := s₁.setTop (mkF m 8 #[.val (.int p0), .val (.int (4 : Int32)), .unset, .unset] [(.int (4 : Int32))])) (fun _ k => XS.iloadN X0.here hx rfl (hb hby at_7) rfl k) ?_
    obtain ⟨_, _, ⟨T9, L9, k9, n9⟩, -, X9, ⟨Lc9, hQ9, l9, y9, z9⟩, st9⟩ := Jvm.LawKit.callS X0 hx (y := (⟨"com/example/hovedvilkar/hovedvilkar/EventIsWindowPinLaw", "pick", "(I)Lcom/example/hovedvilkar/hovedvilkar/Deadline$Event;"⟩ : MethodName)) hown (mvT hZ (hw _ (List.mem_of_getElem? (i := 1) rfl))) (mvT hZ (hw _ (List.mem_of_getElem? (i := 2) rfl))) (mvT hZ (hw _ (List.mem_of_getElem? (i := 3) rfl))) (mvT hZ (hw _ (List.mem_of_getElem? (i := 4) rfl))) (by decide) (own_back (W := 0) (rm1_4 l Z a0 hw []  A hW h0 x0 ) hZ (hw _ (List.mem_of_getElem? (i := 4) rfl)) (hw _ (List.mem_of_getElem? (i := 3) rfl)) (by decide) (by decide)) (g := (mkF m 8 #[.val (.int p0), .val (.int (4 : Int32)), .unset, .unset] [(.int (4 : Int32))])) rfl (by rw [hml]; rfl) (argsL := [(.int (4 : Int32))]) (rest := []) (lenOf pd_0 rfl) rfl (by show 2 * 0 + _ ≤ _; exact Nat.le_of_eq rfl) (hb hby at_8) (fun _ _ => ⟨rfl, e0, (by decide : 0 + 0 ≤ _), (by decide : 0 + 0 ≤ _)⟩)
    dsimp only [Pt.U, Pt.locs, Pt.cells, Pt.slots] at X9 l9 y9 z9 st9 hQ9
    subst l9 y9 z9
    obtain ⟨rfl, N9q, e9⟩ := hQ9
    have N9 := Fr.app N0 N9q
    refine own_go (B := T9.setTop (mkF m 11 #[.val (.int p0), .val (.int (4 : Int32)), .unset, .unset] [(.ref (A 1))])) st9 ?_
    refine own_go (B := T9.setTop (mkF m 12 #[.val (.int p0), .val (.int (4 : Int32)), .val (.ref (A 1)), .unset] [])) (fun _ k => XS.astoreN X9.here hx rfl (hb hby at_11) rfl rfl (l' := #[.val (.int p0), .val (.int (4 : Int32)), .val (.ref (A 1)), .unset]) rfl k) ?_
    refine own_go (B := T9.setTop (mkF m 13 #[.val (.int p0), .val (.int (4 : Int32)), .val (.ref (A 1)), .unset] [(.int (4 : Int32))])) (fun _ k => XS.iloadN X9.here hx rfl (hb hby at_12) rfl k) ?_
    refine own_go (B := T9.setTop (mkF m 14 #[.val (.int p0), .val (.int (4 : Int32)), .val (.ref (A 1)), .unset] [(.int (4 : Int32)), (.int (4 : Int32))])) (fun _ k => XT.iconstV X9.here hx rfl (4 : Int32) (hb hby at_13) rfl k) ?_
    refine own_go (B := T9.setTop (mkF m 17 #[.val (.int p0), .val (.int (4 : Int32)), .val (.ref (A 1)), .unset] [])) (fun _ k => XS.icmpNo X9.here hx rfl (hb hby at_14) rfl (by decide) k) ?_
    refine own_go (B := T9.setTop (mkF m 18 #[.val (.int p0), .val (.int (4 : Int32)), .val (.ref (A 1)), .unset] [(.int (1 : Int32))])) (fun _ k => XT.iconstV X9.here hx rfl (1 : Int32) (hb hby at_17) rfl k) ?_
    refine own_go (B := T9.setTop (mkF m 22 #[.val (.int p0), .val (.int (4 : Int32)), .val (.ref (A 1)), .unset] [(.int (1 : Int32))])) (fun _ k => XS.goto X9.here hx rfl (pc0 := 18) (pc' := 22) rfl (hb hby at_18) (by decide) (by decide) k) ?_
    refine own_go (B := T9.setTop (mkF m 23 #[.val (.int p0), .val (.int (4 : Int32)), .val (.ref (A 1)), .val (.int (1 : Int32))] [])) (fun _ k => XS.istoreN X9.here hx rfl (hb hby at_22) rfl (l' := #[.val (.int p0), .val (.int (4 : Int32)), .val (.ref (A 1)), .val (.int (1 : Int32))]) rfl k) ?_
    refine own_go (B := T9.setTop (mkF m 24 #[.val (.int p0), .val (.int (4 : Int32)), .val (.ref (A 1)), .val (.int (1 : Int32))] [(.ref (A 1))])) (fun _ k => XS.aloadN X9.here hx rfl (hb hby at_23) rfl rfl k) ?_
    obtain ⟨cq10, kq10, q10a, q10b, q10c⟩ := isOf hZ e9 (E_WRITTEN_PROCEDURE.ext x0)
    obtain ⟨_, _, ⟨T10, L10, k10, n10⟩, -, X10, ⟨Lc10, hQ10, l10, y10, z10⟩, st10⟩ := X9.virtualBack hx (y := (⟨"com/example/hovedvilkar/hovedvilkar/Deadline$Event", "isWindow", "()Z"⟩ : MethodName)) (z := (⟨"com/example/hovedvilkar/hovedvilkar/Deadline$Event", "isWindow", "()Z"⟩ : MethodName)) hown (mvT hZ (hw _ (List.mem_of_getElem? (i := 8) rfl))) (mvT hZ (hw _ (List.mem_of_getElem? (i := 9) rfl))) (notFace_of_selects (args := #[]) (mvT hZ (hw _ (List.mem_of_getElem? (i := 11) rfl)))) (mvT hZ (hw _ (List.mem_of_getElem? (i := 11) rfl))) (mvT hZ (hw _ (List.mem_of_getElem? (i := 10) rfl))) (by decide) (own_back (W := 0) (rm2_4 l Z a0 hw []  A hW h0 x0 ) hZ (hw _ (List.mem_of_getElem? (i := 12) rfl)) (hw _ (List.mem_of_getElem? (i := 6) rfl)) (by decide) (by decide)) q10a q10c (g := (mkF m 24 #[.val (.int p0), .val (.int (4 : Int32)), .val (.ref (A 1)), .val (.int (1 : Int32))] [(.ref (A 1))])) rfl (by rw [hml]; rfl) (Steps.refl _) (argsL := []) (rest := []) (lenOf pd_1 rfl) rfl (by show 2 * 0 + _ ≤ _; exact Nat.le_of_eq rfl) (hb hby at_24) (fun _ _ => ⟨rfl, e9, (by decide : 0 + 0 ≤ _), (by decide : 0 + 0 ≤ _)⟩)
    dsimp only [Pt.U, Pt.locs, Pt.cells, Pt.slots] at X10 l10 y10 z10 st10 hQ10
    subst l10 y10 z10
    obtain ⟨rfl, N10q, e10⟩ := hQ10
    have N10 := Fr.app N9 N10q
    refine own_go (B := T10.setTop (mkF m 27 #[.val (.int p0), .val (.int (4 : Int32)), .val (.ref (A 1)), .val (.int (1 : Int32))] [(.int (1 : Int32))])) (fun _ k => st10.trans k) ?_
    refine own_go (B := T10.setTop (mkF m 28 #[.val (.int p0), .val (.int (4 : Int32)), .val (.ref (A 1)), .val (.int (1 : Int32))] [(.int (1 : Int32)), (.int (1 : Int32))])) (fun _ k => XS.iloadN X10.here hx rfl (hb hby at_27) rfl k) ?_
    refine own_go (B := T10.setTop (mkF m 31 #[.val (.int p0), .val (.int (4 : Int32)), .val (.ref (A 1)), .val (.int (1 : Int32))] [])) (fun _ k => XS.icmpNo X10.here hx rfl (hb hby at_28) rfl (by decide) k) ?_
    refine own_go (B := T10.setTop (mkF m 32 #[.val (.int p0), .val (.int (4 : Int32)), .val (.ref (A 1)), .val (.int (1 : Int32))] [(.int (1 : Int32))])) (fun _ k => XT.iconstV X10.here hx rfl (1 : Int32) (hb hby at_31) rfl k) ?_
    refine own_go (B := T10.setTop (mkF m 36 #[.val (.int p0), .val (.int (4 : Int32)), .val (.ref (A 1)), .val (.int (1 : Int32))] [(.int (1 : Int32))])) (fun _ k => XS.goto X10.here hx rfl (pc0 := 32) (pc' := 36) rfl (hb hby at_32) (by decide) (by decide) k) ?_
    exact own_ret X10 hx (t := .boolean) hrt rfl (Or.inl ⟨rfl, by simp, _, rfl⟩) (hb hby at_36) hlk ⟨rfl, N10⟩ (by decide) (by decide)
set_option maxRecDepth 65536 in
set_option maxHeartbeats 40000000 in
theorem comes_1 {Post : Tables → Env → Array Value → State → Outcome → State → Prop} (hpost : ∀ tb e args s v u, (limb_1_1.after args s (.returned v) u = true ∧ limb_1_2.after args s (.returned v) u = true ∧ True) → FrameEnd s (.returned v) u (Jvm.fieldLocs frame_1_writes args s ++ Jvm.arrayLocs frame_1_arrays args s ++ Jvm.staticLocs frame_1_statics s) 0 0 → Post tb e args s (.returned v) u) :
    ArmFor flags0 classFile x code maxLocals ret World_1 tables_1 room_1 Calls_1 rest_1 Pre_1 Post := by
  intro l hfl _ _ p e ha hc hk s m args below hf hA hF happ hP
  obtain ⟨hcalls, hrest, hpre⟩ := hP
  obtain ⟨-, -, -, hnamed, -, -, -, hat⟩ := (Spec.applies_iff hf).mp happ
  obtain ⟨hg, hn⟩ := and_e (Cond.before_iff.mp (show (Jvm.Cond.and given_1 narrow_1).before args s = true from hpre))
  obtain ⟨g1a, g1b⟩ := and_e hg
  obtain ⟨w0, rfl⟩ : ∃ w0 : Value, args = #[w0] := by
    have hs : args.size = 1 := by simpa [Cond.value, given_1] using g1a
    obtain ⟨L⟩ := args
    match L, hs with
    | [w0], _ => exact ⟨w0, rfl⟩
  have hw := fun d (hd : d ∈ tables_1) => atoms_spec (ws := Jvm.Cond.code x code maxLocals ret :: tables_1) hat d (List.mem_cons_of_mem _ hd)
  obtain ⟨i0, ei0⟩ := is_v g1b
  obtain rfl : w0 = (.int i0) := Option.some.inj ei0
  obtain ⟨u1a, u1b⟩ := and_e hn
  obtain ⟨u2a, u2b⟩ := and_e u1b
  obtain ⟨u3a, u3b⟩ := and_e u2b
  obtain ⟨u4a, u4b⟩ := and_e u3b
  obtain ⟨u5a, u5b⟩ := and_e u4b
  obtain ⟨u6a, u6b⟩ := and_e u5b
  obtain ⟨u7a, u7b⟩ := and_e u6b
  obtain ⟨u8a, u8b⟩ := and_e u7b
  obtain ⟨u9a, u9b⟩ := and_e u8b
  obtain ⟨a_MEETING_NOTICE, ev_MEETING_NOTICE⟩ := exa_v u1a
  obtain ⟨a_WRITTEN_PROCEDURE, ev_WRITTEN_PROCEDURE⟩ := exa_v u2a
  obtain ⟨a_PAYMENT_GRACE, ev_PAYMENT_GRACE⟩ := exa_v u5a
  obtain ⟨a_CALL_NOTICE, ev_CALL_NOTICE⟩ := exa_v u7a
  obtain ⟨a_LAST_TAP, ev_LAST_TAP⟩ := exa_v u9a
  obtain ⟨n, o, h1, h2, h3, _, L, rfl, ⟨rfl, N⟩, hq⟩ := rm0 l s _ hw tables_1 i0 (fun n => [a_MEETING_NOTICE, a_WRITTEN_PROCEDURE, a_PAYMENT_GRACE, a_CALL_NOTICE, a_LAST_TAP].getD n 0) ⟨(Sta.start ev_MEETING_NOTICE (Or.inr ⟨(hw _ (List.mem_of_getElem? (i := 6) rfl)), (hw _ (List.mem_of_getElem? (i := 7) rfl))⟩)), (Exa.start ev_MEETING_NOTICE u1a), (Sta.start ev_WRITTEN_PROCEDURE (Or.inr ⟨(hw _ (List.mem_of_getElem? (i := 6) rfl)), (hw _ (List.mem_of_getElem? (i := 14) rfl))⟩)), (Exa.start ev_WRITTEN_PROCEDURE u2a), (Sta.start ev_PAYMENT_GRACE (Or.inr ⟨(hw _ (List.mem_of_getElem? (i := 6) rfl)), (hw _ (List.mem_of_getElem? (i := 16) rfl))⟩)), (Exa.start ev_PAYMENT_GRACE u5a), (Sta.start ev_CALL_NOTICE (Or.inr ⟨(hw _ (List.mem_of_getElem? (i := 6) rfl)), (hw _ (List.mem_of_getElem? (i := 18) rfl))⟩)), (Exa.start ev_CALL_NOTICE u7a), (Sta.start ev_LAST_TAP (Or.inr ⟨(hw _ (List.mem_of_getElem? (i := 6) rfl)), (hw _ (List.mem_of_getElem? (i := 21) rfl))⟩)), (Exa.start ev_LAST_TAP u9a), (own_fI ev_MEETING_NOTICE u3a), (own_fI ev_WRITTEN_PROCEDURE u4a), (own_fI ev_PAYMENT_GRACE u6a), (own_fI ev_CALL_NOTICE u8a), (own_fI ev_LAST_TAP u9b)⟩ s.heap (own_xr _) p e ha hc hk s m _ below hf ((Spec.applies_iff_loose hf).mp happ).1 ⟨rfl, State.Warmed39.refl s, rfl⟩ trivial
  refine ⟨n, _, h1, h2, h3, hpost _ _ _ _ _ _ ⟨Cond.after_iff.mpr rfl, Cond.after_iff.mpr (eq_i res_at (Term.int_eval (1)) rfl), trivial⟩ ⟨hq.1, hq.2.1, (hq.2.2.sift fun y hy => Or.inr (N y hy)).mono (by decide) (by decide)⟩⟩
theorem main_1_1 : Claimed_1_1 := comes_1 fun _ _ _ _ _ _ h hF => ⟨h.1, hF⟩
theorem main_1_2 : Claimed_1_2 := comes_1 fun _ _ _ _ _ _ h hF => ⟨h.2.1, hF⟩
end Jvm.Pilot.@@N@@
namespace Jvm.Pilot.@@N@@
open Jvm Jvm.ClassFile Sem Op Lib Jvm.Free Jvm.Stand Jvm.Pilot.@@N@@.Jvm.D
/-! MADE BY PROGRAM (witnessworld.py) out of the Statement's table words and the real class files: 12 classes; the members and pool entries that the words name. The judged class is class 1, her method 2. -/
namespace start1
open Jvm.ClassFile
def u (s : String) : CpInfo := .utf8 (stringToUtf16 s)
/-- a pool by its gaps: so many unusable entries, then the entry; so many at the end -/
def gap : Nat → List CpInfo → List CpInfo
  | 0, r => r
  | n + 1, r => .unusable :: gap n r
def poolList (es : List (Nat × CpInfo)) (last : Nat) : List CpInfo := es.foldr (fun e r => gap e.1 (e.2 :: r)) (gap last [])
def pool (es : List (Nat × CpInfo)) (last : Nat) : Array CpInfo := ⟨poolList es last⟩
def fileOf (pool : Array CpInfo) (this : Nat) (attrs : Array Attribute := #[]) (ms : Array MethodInfo := #[]) (fl : Nat := 33) (sup : Nat := 0) (ifs : Array Nat := #[]) (fds : Array FieldInfo := #[]) : ClassFile where
  minorVersion := 0
  majorVersion := 65
  constantPool := pool
  accessFlags := fl
  thisClass := this
  superClass := sup
  interfaces := ifs
  fields := fds
  methods := ms
  attributes := attrs
def plain (name : String) (sup : Option ClassId) : Class where
  name := name
  kind := .ordinary
  loader := none
  accessFlags := 33
  super := sup
  interfaces := #[]
  cf := none
  fields := #[]
  methods := #[]
  instanceTypes := #[]
  staticTypes := #[]
  resolved := #[]
  callSites := []
  init := .initialized
  statics := none
  mirror := none

def pool0 : Array CpInfo := pool [(5, u "<init>"), (0, u "()V"), (1, .class_ 10), (1, u "java/lang/Object")] 113

def k0m0 : Method := { name := "<init>", desc := "()V", sig := { parameters := [], returnType := none }, accessFlags := 1, code := none }
/-- java/lang/Object -/
def k0 : Class := { plain "java/lang/Object" none with
  accessFlags := 33
  interfaces := #[]
  cf := some (fileOf pool0 8 #[] #[{ accessFlags := 1, nameIndex := 5, descriptorIndex := 6, attributes := #[] }] 33 0 #[] #[])
  fields := #[]
  methods := #[k0m0]
  instanceTypes := #[]
  staticTypes := #[]
  resolved := Array.replicate 124 none
  statics := none }

def pool1 : Array CpInfo := pool [(2, .class_ 4), (1, u "java/lang/Object"), (0, u "<init>"), (0, u "()V"), (0, .fieldref 8 9), (0, .class_ 10), (0, .nameAndType 11 12), (0, u "com/example/hovedvilkar/hovedvilkar/Deadline$Event"), (0, u "MEETING_NOTICE"), (0, u "Lcom/example/hovedvilkar/hovedvilkar/Deadline$Event;"), (0, .fieldref 8 14), (0, .nameAndType 15 12), (0, u "CALL_NOTICE"), (0, .fieldref 8 17), (0, .nameAndType 18 12), (0, u "LAST_TAP"), (0, .fieldref 8 20), (0, .nameAndType 21 12), (0, u "PAYMENT_GRACE"), (0, .fieldref 8 23), (0, .nameAndType 24 12), (0, u "WRITTEN_PROCEDURE"), (0, .integer 2147483647), (0, .methodref 27 28), (0, .class_ 29), (0, .nameAndType 30 31), (0, u "com/example/hovedvilkar/hovedvilkar/EventIsWindowPinLaw"), (0, u "pick"), (0, u "(I)Lcom/example/hovedvilkar/hovedvilkar/Deadline$Event;"), (0, .methodref 8 33), (0, .nameAndType 34 35), (0, u "isWindow"), (0, u "()Z"), (3, u "law"), (0, u "(I)Z")] 6

def k1m0 : Method := { name := "<init>", desc := "()V", sig := { parameters := [], returnType := none }, accessFlags := 2, code := none }
def k1c1 : Code := { maxStack := 2, maxLocals := 1, code := method_2_code, exceptionTable := #[], attributes := #[] }
def k1m1 : Method := { name := "pick", desc := "(I)Lcom/example/hovedvilkar/hovedvilkar/Deadline$Event;", sig := { parameters := [.int], returnType := some (.object "com/example/hovedvilkar/hovedvilkar/Deadline$Event") }, accessFlags := 10, code := some k1c1 }
def k1c2 : Code := { maxStack := 2, maxLocals := 4, code := code, exceptionTable := #[], attributes := #[] }
def k1m2 : Method := { name := "law", desc := "(I)Z", sig := { parameters := [.int], returnType := some .boolean }, accessFlags := 9, code := some k1c2 }
/-- com/example/hovedvilkar/hovedvilkar/EventIsWindowPinLaw -/
def k1 : Class := { plain "com/example/hovedvilkar/hovedvilkar/EventIsWindowPinLaw" (some 0) with
  accessFlags := 49
  interfaces := #[]
  cf := some (fileOf pool1 27 #[] #[{ accessFlags := 2, nameIndex := 5, descriptorIndex := 6, attributes := #[] }, { accessFlags := 10, nameIndex := 30, descriptorIndex := 31, attributes := #[] }, { accessFlags := 9, nameIndex := 39, descriptorIndex := 40, attributes := #[] }] 49 2 #[] #[])
  fields := #[]
  methods := #[k1m0, k1m1, k1m2]
  instanceTypes := #[]
  staticTypes := #[]
  resolved := Array.replicate 47 none
  statics := none }

def pool2 : Array CpInfo := pool [(1, .class_ 2), (0, u "java/lang/constant/Constable"), (0, .class_ 4), (0, u "java/lang/Object")] 6

/-- java/lang/constant/Constable -/
def k2 : Class := { plain "java/lang/constant/Constable" (some 0) with
  accessFlags := 1537
  interfaces := #[]
  cf := some (fileOf pool2 1 #[] #[] 1537 3 #[] #[])
  fields := #[]
  methods := #[]
  instanceTypes := #[]
  staticTypes := #[]
  resolved := Array.replicate 11 none
  statics := none }

def pool3 : Array CpInfo := pool [(1, .class_ 2), (0, u "java/lang/Comparable"), (0, .class_ 4), (0, u "java/lang/Object")] 7

/-- java/lang/Comparable -/
def k3 : Class := { plain "java/lang/Comparable" (some 0) with
  accessFlags := 1537
  interfaces := #[]
  cf := some (fileOf pool3 1 #[] #[] 1537 3 #[] #[])
  fields := #[]
  methods := #[]
  instanceTypes := #[]
  staticTypes := #[]
  resolved := Array.replicate 12 none
  statics := none }

def pool4 : Array CpInfo := pool [(1, .class_ 2), (0, u "java/io/Serializable"), (0, .class_ 4), (0, u "java/lang/Object")] 2

/-- java/io/Serializable -/
def k4 : Class := { plain "java/io/Serializable" (some 0) with
  accessFlags := 1537
  interfaces := #[]
  cf := some (fileOf pool4 1 #[] #[] 1537 3 #[] #[])
  fields := #[]
  methods := #[]
  instanceTypes := #[]
  staticTypes := #[]
  resolved := Array.replicate 7 none
  statics := none }

def pool5 : Array CpInfo := pool [(2, .class_ 4), (1, u "java/lang/Enum"), (0, u "name"), (0, u "Ljava/lang/String;"), (2, u "ordinal"), (0, u "I"), (1, .class_ 14), (1, u "java/lang/Object"), (4, u "hash"), (86, .class_ 108), (1, u "java/lang/Enum$EnumDesc"), (2, .class_ 112), (0, u "java/lang/constant/Constable"), (0, .class_ 114), (0, u "java/lang/Comparable"), (0, .class_ 116), (0, u "java/io/Serializable")] 87

/-- java/lang/Enum -/
def k5 : Class := { plain "java/lang/Enum" (some 0) with
  accessFlags := 1057
  interfaces := #[2, 3, 4]
  cf := some (fileOf pool5 2 #[.nestMembers #[106]] #[] 1057 12 #[111, 113, 115] #[{ accessFlags := 18, nameIndex := 5, descriptorIndex := 6, attributes := #[] }, { accessFlags := 18, nameIndex := 9, descriptorIndex := 10, attributes := #[] }, { accessFlags := 2, nameIndex := 19, descriptorIndex := 10, attributes := #[] }])
  fields := #[{ name := "name", type := (.object "java/lang/String"), accessFlags := 18, slot := 0, constantValue := 0 }, { name := "ordinal", type := .int, accessFlags := 18, slot := 1, constantValue := 0 }, { name := "hash", type := .int, accessFlags := 2, slot := 2, constantValue := 0 }]
  methods := #[]
  instanceTypes := #[(.object "java/lang/String"), .int, .int]
  staticTypes := #[]
  resolved := Array.replicate 204 none
  statics := none }

def pool6 : Array CpInfo := pool [(1, .class_ 2), (0, u "com/example/hovedvilkar/hovedvilkar/Deadline$Event"), (2, u "MEETING_NOTICE"), (0, u "Lcom/example/hovedvilkar/hovedvilkar/Deadline$Event;"), (2, u "CALL_NOTICE"), (2, u "LAST_TAP"), (2, u "PAYMENT_GRACE"), (0, .fieldref 1 17), (0, .nameAndType 18 6), (0, u "WRITTEN_PROCEDURE"), (2, u "$VALUES"), (0, u "[Lcom/example/hovedvilkar/hovedvilkar/Deadline$Event;"), (6, .class_ 31), (1, u "java/lang/Enum"), (8, u "label"), (0, u "Ljava/lang/String;"), (2, u "after"), (0, u "Z"), (2, u "untilTo2022"), (0, u "Lcom/example/hovedvilkar/hovedvilkar/Deadline$Days;"), (2, u "from2023"), (93, u "isWindow"), (0, u "()Z"), (14, .class_ 163), (0, u "com/example/hovedvilkar/hovedvilkar/Deadline")] 25

def k6c0 : Code := { maxStack := 2, maxLocals := 1, code := prog_27_method_6_code, exceptionTable := #[], attributes := #[] }
def k6m0 : Method := { name := "isWindow", desc := "()Z", sig := { parameters := [], returnType := some .boolean }, accessFlags := 1, code := some k6c0 }
/-- com/example/hovedvilkar/hovedvilkar/Deadline$Event -/
def k6 : Class := { plain "com/example/hovedvilkar/hovedvilkar/Deadline$Event" (some 5) with
  accessFlags := 16433
  interfaces := #[]
  cf := some (fileOf pool6 1 #[.nestHost 162] #[{ accessFlags := 1, nameIndex := 146, descriptorIndex := 147, attributes := #[] }] 16433 29 #[] #[{ accessFlags := 16409, nameIndex := 5, descriptorIndex := 6, attributes := #[] }, { accessFlags := 16409, nameIndex := 9, descriptorIndex := 6, attributes := #[] }, { accessFlags := 16409, nameIndex := 12, descriptorIndex := 6, attributes := #[] }, { accessFlags := 16409, nameIndex := 15, descriptorIndex := 6, attributes := #[] }, { accessFlags := 16409, nameIndex := 18, descriptorIndex := 6, attributes := #[] }, { accessFlags := 18, nameIndex := 40, descriptorIndex := 41, attributes := #[] }, { accessFlags := 18, nameIndex := 44, descriptorIndex := 45, attributes := #[] }, { accessFlags := 18, nameIndex := 48, descriptorIndex := 49, attributes := #[] }, { accessFlags := 18, nameIndex := 52, descriptorIndex := 49, attributes := #[] }, { accessFlags := 4122, nameIndex := 21, descriptorIndex := 22, attributes := #[] }])
  fields := #[{ name := "MEETING_NOTICE", type := (.object "com/example/hovedvilkar/hovedvilkar/Deadline$Event"), accessFlags := 16409, slot := 0, constantValue := 0 }, { name := "CALL_NOTICE", type := (.object "com/example/hovedvilkar/hovedvilkar/Deadline$Event"), accessFlags := 16409, slot := 1, constantValue := 0 }, { name := "LAST_TAP", type := (.object "com/example/hovedvilkar/hovedvilkar/Deadline$Event"), accessFlags := 16409, slot := 2, constantValue := 0 }, { name := "PAYMENT_GRACE", type := (.object "com/example/hovedvilkar/hovedvilkar/Deadline$Event"), accessFlags := 16409, slot := 3, constantValue := 0 }, { name := "WRITTEN_PROCEDURE", type := (.object "com/example/hovedvilkar/hovedvilkar/Deadline$Event"), accessFlags := 16409, slot := 4, constantValue := 0 }, { name := "label", type := (.object "java/lang/String"), accessFlags := 18, slot := 3, constantValue := 0 }, { name := "after", type := .boolean, accessFlags := 18, slot := 4, constantValue := 0 }, { name := "untilTo2022", type := (.object "com/example/hovedvilkar/hovedvilkar/Deadline$Days"), accessFlags := 18, slot := 5, constantValue := 0 }, { name := "from2023", type := (.object "com/example/hovedvilkar/hovedvilkar/Deadline$Days"), accessFlags := 18, slot := 6, constantValue := 0 }, { name := "$VALUES", type := (.array (.object "com/example/hovedvilkar/hovedvilkar/Deadline$Event")), accessFlags := 4122, slot := 5, constantValue := 0 }]
  methods := #[k6m0]
  instanceTypes := #[(.object "java/lang/String"), .int, .int, (.object "java/lang/String"), .boolean, (.object "com/example/hovedvilkar/hovedvilkar/Deadline$Days"), (.object "com/example/hovedvilkar/hovedvilkar/Deadline$Days")]
  staticTypes := #[(.object "com/example/hovedvilkar/hovedvilkar/Deadline$Event"), (.object "com/example/hovedvilkar/hovedvilkar/Deadline$Event"), (.object "com/example/hovedvilkar/hovedvilkar/Deadline$Event"), (.object "com/example/hovedvilkar/hovedvilkar/Deadline$Event"), (.object "com/example/hovedvilkar/hovedvilkar/Deadline$Event"), (.array (.object "com/example/hovedvilkar/hovedvilkar/Deadline$Event"))]
  resolved := Array.replicate 189 none
  statics := some 0 }

def pool7 : Array CpInfo := pool [(1, u "java/lang/Cloneable"), (0, .class_ 1), (0, u "java/lang/Object"), (0, .class_ 3)] 3

/-- java/lang/Cloneable -/
def k7 : Class := { plain "java/lang/Cloneable" (some 0) with
  accessFlags := 1537
  interfaces := #[]
  cf := some (fileOf pool7 2 #[] #[] 1537 4 #[] #[])
  fields := #[]
  methods := #[]
  instanceTypes := #[]
  staticTypes := #[]
  resolved := Array.replicate 8 none
  statics := none }

/-- the primitive byte -/
def k8 : Class := { plain "byte" none with kind := .primitive 'B', accessFlags := 0x411 }
/-- [B -/
def k9 : Class := { plain "[B" (some 0) with kind := .array 8 .byte, interfaces := #[7, 4], accessFlags := 1041 }

/-- the primitive int -/
def k10 : Class := { plain "int" none with kind := .primitive 'I', accessFlags := 0x411 }
/-- [I -/
def k11 : Class := { plain "[I" (some 0) with kind := .array 10 .int, interfaces := #[7, 4], accessFlags := 1041 }

def heap : Heap := #[{ cls := 6, slots := #[.ref 1, .ref 4, .ref 5, .ref 3, .ref 2, .null], vm := .statics 6 },
  { cls := 6, slots := #[.null, .int 0, .int 0, .null, .int 0, .null, .null], vm := .none },
  { cls := 6, slots := #[.null, .int 4, .int 0, .null, .int 0, .null, .null], vm := .none },
  { cls := 6, slots := #[.null, .int 3, .int 0, .null, .int 0, .null, .null], vm := .none },
  { cls := 6, slots := #[.null, .int 1, .int 0, .null, .int 0, .null, .null], vm := .none },
  { cls := 6, slots := #[.null, .int 2, .int 0, .null, .int 0, .null, .null], vm := .none }]
def classes : Array Class := #[k0, k1, k2, k3, k4, k5, k6, k7, k8, k9, k10, k11]
def interned : List (Array UInt16 × Addr) := []
def slotsUsed : Nat := 41
def theMethod : MethodId := ⟨1, 2⟩
def args0 : Array Value := #[.int 5]
def aboutOver (below : List Frame) : State where
  vm := { classes := classes, interned := interned.toArray }
  heap := heap
  slotsUsed := slotsUsed
  threads := #[{ frames := .invoking theMethod args0 :: below }]
def below0 : List Frame := [.native { method := ⟨0, 0⟩, args := #[] }]
def about1 : State := aboutOver below0
def p0 : Program := .bare "" "" ""
def e0 : Env := launch0.env 0 0 0
theorem w_frames : about1.frames = Frame.invoking theMethod args0 :: below0 := rfl
set_option maxRecDepth 65536 in
theorem w_args : argsFit about1.vm theMethod args0 = true := by decide +kernel
set_option maxRecDepth 65536 in
theorem w_heap : heapFits about1 = true := by decide +kernel
set_option maxRecDepth 65536 in
theorem w_runnable : about1.curStatus? = some .runnable := by decide +kernel
set_option maxRecDepth 65536 in
theorem w_alone : about1.alone = true := by decide +kernel
set_option maxRecDepth 65536 in
theorem w_named : about1.methodNamed? x = some theMethod := by decide +kernel
set_option maxRecDepth 65536 in
theorem w_hears : about1.hears theMethod below0 = true := by decide +kernel
set_option maxRecDepth 65536 in
theorem w_ripe : about1.ripe theMethod args0 below0 = true := by decide +kernel
theorem w_running : about1.status = .running := rfl
set_option maxRecDepth 65536 in
theorem w_room : about1.hasRoom e0.platform room_1 = true :=
  launch0.hasRoom_least _ room_1 (by decide +kernel) (by decide +kernel) (by decide +kernel) (by decide +kernel) (by decide +kernel) (by decide +kernel)
theorem allAtoms_all (ts : List Jvm.Cond) (a : Array Jvm.Value) (st : Jvm.State) : (allAtoms ts).before a st = ts.all (fun c => c.before a st) := by
  induction ts with
  | nil => rfl
  | cons c t ih =>
    show (Jvm.Cond.and c (allAtoms t)).before a st = _
    rw [Jvm.Cond.before_and, ih, List.all_cons]
def words1 : List Jvm.Cond := Jvm.Cond.code x code maxLocals ret :: tables_1
/-- a 'code' word, met by the world's own term for the bytes: nothing is compared byte by byte -/
theorem code_word {y : MethodName} {bytes : ByteArray} {mx : Nat} {rt : Option FieldType} {a : Array Value} {s : State} {m : MethodId} {meth : Method} {c : Code} (h1 : s.methodNamed? y = some m) (h2 : s.vm.method? m = some meth) (h3 : meth.code = some c) (h4 : c.code = bytes)
    (h5 : (c.maxLocals == mx && c.exceptionTable.isEmpty && decide (c.maxStack ≤ mostOperands) && decide (meth.sig.returnType = rt) && !meth.locks && decide (parseMethodDescriptor y.desc = some meth.sig)) = true) : (Jvm.Cond.code y bytes mx rt).before a s = true := by
  simp only [Bool.and_eq_true, beq_iff_eq, Bool.not_eq_true', decide_eq_true_eq] at h5
  obtain ⟨⟨⟨⟨⟨g1, g2⟩, g3⟩, g4⟩, g5⟩, g6⟩ := h5
  simp [Cond.before, Cond.holds, Cond.value, h1, h2, h3, h4, g1, g2, g3, g4, g5, g6]
def isCode : Jvm.Cond → Bool
  | .code _ _ _ _ => true
  | _ => false
theorem all_split {L : List Jvm.Cond} {P : Jvm.Cond → Bool} (h1 : L.all (fun c => isCode c || P c) = true) (h2 : ∀ c ∈ L.filter isCode, P c = true) : L.all P = true := by
  refine List.all_eq_true.mpr fun c hc => ?_
  have h := List.all_eq_true.mp h1 c hc
  rcases Bool.eq_false_or_eq_true (isCode c) with hi | hi
  · exact h2 c (List.mem_filter.mpr ⟨hc, hi⟩)
  · simpa [hi] using h
set_option maxRecDepth 65536 in
theorem w_c0 : (Jvm.Cond.code x code maxLocals ret).before args0 about1 = true := code_word (m := ⟨1, 2⟩) (meth := k1m2) (c := k1c2) (by decide +kernel) rfl rfl rfl (by decide +kernel)
set_option maxRecDepth 65536 in
theorem w_c1 : (Jvm.Cond.code ({ cls := "com/example/hovedvilkar/hovedvilkar/EventIsWindowPinLaw", name := "pick", desc := "(I)Lcom/example/hovedvilkar/hovedvilkar/Deadline$Event;" } : Jvm.MethodName) method_2_code (1 : Nat) (Option.some (Jvm.ClassFile.FieldType.object "com/example/hovedvilkar/hovedvilkar/Deadline$Event"))).before args0 about1 = true := code_word (m := ⟨1, 1⟩) (meth := k1m1) (c := k1c1) (by decide +kernel) rfl rfl rfl (by decide +kernel)
set_option maxRecDepth 65536 in
theorem w_c2 : (Jvm.Cond.code ({ cls := "com/example/hovedvilkar/hovedvilkar/Deadline$Event", name := "isWindow", desc := "()Z" } : Jvm.MethodName) prog_27_method_6_code (1 : Nat) (Option.some Jvm.ClassFile.FieldType.boolean)).before args0 about1 = true := code_word (m := ⟨6, 0⟩) (meth := k6m0) (c := k6c0) (by decide +kernel) rfl rfl rfl (by decide +kernel)
def codes1 : List Jvm.Cond := [Jvm.Cond.code x code maxLocals ret, Jvm.Cond.code ({ cls := "com/example/hovedvilkar/hovedvilkar/EventIsWindowPinLaw", name := "pick", desc := "(I)Lcom/example/hovedvilkar/hovedvilkar/Deadline$Event;" } : Jvm.MethodName) method_2_code (1 : Nat) (Option.some (Jvm.ClassFile.FieldType.object "com/example/hovedvilkar/hovedvilkar/Deadline$Event")), Jvm.Cond.code ({ cls := "com/example/hovedvilkar/hovedvilkar/Deadline$Event", name := "isWindow", desc := "()Z" } : Jvm.MethodName) prog_27_method_6_code (1 : Nat) (Option.some Jvm.ClassFile.FieldType.boolean)]
set_option maxRecDepth 65536 in
theorem codes_eq : words1.filter isCode = codes1 := rfl
theorem w_codes : ∀ c ∈ words1.filter isCode, c.before args0 about1 = true := by
  rw [codes_eq]
  intro c hc
  simp only [codes1, List.mem_cons, List.not_mem_nil, or_false] at hc
  rcases hc with rfl | rfl | rfl
  · exact w_c0
  · exact w_c1
  · exact w_c2
set_option maxRecDepth 65536 in
theorem w_t1 : words1.all (fun c => isCode c || c.before args0 about1) = true := by decide +kernel
theorem w_tables : (allAtoms (Jvm.Cond.code x code maxLocals ret :: tables_1)).before args0 about1 = true := by
  rw [allAtoms_all]
  show words1.all (fun c => c.before args0 about1) = true
  refine all_split ?_ w_codes
  rw [w_t1]
set_option maxRecDepth 65536 in
theorem w_case : (Jvm.Cond.and given_1 narrow_1).before args0 about1 = true := by decide +kernel
theorem w_applies : (headSpec (Jvm.Cond.code x code maxLocals ret :: tables_1) room_1).applies x e0.platform about1 = true :=
  (Spec.applies_iff w_frames).mpr ⟨w_running, w_runnable, w_alone, w_named, w_hears, w_ripe, w_room, w_tables⟩
theorem atStart : AtStart classFile x code maxLocals ret World_1 tables_1 room_1 Calls_1 rest_1 Pre_1 launch0 p0 e0 about1 theMethod args0 below0 :=
  ⟨lists_1, trivial, launch0.admits_env _ _ _, launch0.least_env, fairChoices_fair.cas, fairChoices_fair.clock, w_frames, w_args, w_heap, w_applies, trivial, trivial, w_case⟩
end start1
theorem witness_1 : WitnessClaimed_1 := ⟨start1.p0, start1.e0, start1.about1, start1.theMethod, start1.args0, start1.below0, start1.atStart⟩
end Jvm.Pilot.@@N@@
