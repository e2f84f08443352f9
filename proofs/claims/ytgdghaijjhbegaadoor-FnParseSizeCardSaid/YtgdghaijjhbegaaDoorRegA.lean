/- The operations of a region that draws its order, over a frame that is a letter. -/
import Derived.Test.YtgdghaijjhbegaaDoorParA
import Derived.Test.YtgdghaijjhbegaaDoorOrdE
namespace Go.Proofs.YtgdghaijjhbegaaDoor
open Go.RowKit
set_option maxRecDepth 100000

/-- A frame with some slots written; the last one stands first. -/
def putL (a : Act) : List (Nat × Value) → Act
  | [] => a
  | (d, v) :: l => (putL a l).put (some d) v

theorem size_putL (a : Act) : ∀ l, (putL a l).tmps.size = a.tmps.size
  | [] => rfl
  | (d, v) :: l => by rw [putL, size_put, size_putL a l]

theorem ev {a : Act} {n : Nat} {l : List (Nat × Value)} {j : Nat} {v : Value} (hn : a.tmps.size = n) (hl : l.all (fun p => Nat.blt p.1 n) = true) (h : (l.lookup j).getD (a.eval (.tmp j)) = v) : (putL a l).eval (.tmp j) = v := by
  induction l with
  | nil => exact h
  | cons p l ih =>
    obtain ⟨d, u⟩ := p
    simp only [List.all_cons, Bool.and_eq_true, Nat.blt_eq] at hl
    rw [putL]
    by_cases e : j = d
    · subst e
      rw [eval_put_same _ _ n _ (by rw [size_putL, hn]) hl.1]
      simpa [List.lookup] using h
    · rw [eval_put_ne _ _ _ _ (fun x => e x.symm)]
      have hb : (j == d) = false := by simpa using e
      simp only [List.lookup, hb] at h
      exact ih hl.2 h

theorem YAll.consL {P : Program} {ops : Array Oper} {S : World → Prop} {K : Act → Prop} {i : Nat} {is : List Nat} {a : Act} {l : List (Nat × Value)} {o : Oper} {v : Value} (d : Nat) (ho : ops[i]? = some o) (hd : o.dst = some d) (hg : o.guard = none)
    (hy : ∀ w, S w → (execOp (putL a l).eval o).run P w = .ok (.value v) w) (h : YAll P ops S K is (putL a ((d, v) :: l))) : YAll P ops S K (i :: is) (putL a l) :=
  YAll.cons d ho hd hg hy h

section
variable {P : Program} {ρ : Operand → Value} {o : Oper} {w : World}
theorem run_move {x : Operand} {v : Value} (ho : o.op = .move x) (h : ρ x = v) : (execOp ρ o).run P w = .ok (.value v) w := by
  simp [execOp, ho, h]
theorem run_nilc {x : Operand} {p : Addr} (ho : o.op = .nilCheck x) (h : ρ x = .pointer (some p)) : (execOp ρ o).run P w = .ok (.value (.pointer (some p))) w := by
  simp [execOp, ho, h]
theorem run_faddr {x : Operand} {s : TypeId} {f : Nat} {u v : Value} (ho : o.op = .fieldAddr s x f) (h : ρ x = u) (hr : ∀ W, (Instr.fieldAt s u f).run P W = .ok v W) : (execOp ρ o).run P w = .ok (.value v) w := by
  simp [execOp, ho, h, hr, Result.andThen]
theorem run_ld {x : Operand} {t : TypeId} {u v : Value} (ho : o.op = .load t x) (h : ρ x = u) (hr : (Instr.loadAt t u).run P w = .ok v w) : (execOp ρ o).run P w = .ok (.value v) w := by
  simp [execOp, ho, h, hr, Result.andThen]
theorem run_bld {t : TypeId} {ps : Array (Nat × Operand)} {us : Array (Nat × Value)} {v : Value} (ho : o.op = .build t ps) (h : ps.map (fun p => (p.1, ρ p.2)) = us) (hr : (Instr.build t us).run P w = .ok v w) : (execOp ρ o).run P w = .ok (.value v) w := by
  simp only [execOp, ho]
  rw [show (ps.map fun x => match x with | (i, x) => (i, ρ x)) = us from h]
  simp [hr, Result.andThen]
theorem run_blds {t : TypeId} {k : Nat} {ps : Array (Nat × Operand)} {us : Array (Nat × Value)} {v : Value} {w' : World} (ho : o.op = .buildSlice t k ps) (h : ps.map (fun p => (p.1, ρ p.2)) = us) (hr : (Instr.buildSlice t k us).run P w = .ok v w') : (execOp ρ o).run P w = .ok (.value v) w' := by
  simp only [execOp, ho]
  rw [show (ps.map fun x => match x with | (i, x) => (i, ρ x)) = us from h]
  simp [hr, Result.andThen]
theorem run_st {x y : Operand} {t : TypeId} {u v : Value} {w' : World} (ho : o.op = .store t x y) (h : ρ x = u) (h2 : ρ y = v) (hr : (Instr.storeAt t u v).run P w = .ok () w') : (execOp ρ o).run P w = .ok .skip w' := by
  simp [execOp, ho, h, h2, hr, Result.andThen]
end

/-- A region of a function's text, by its number. -/
def findR (n : Nat) : Code → Option Code
  | .region id ops d => match Nat.beq id n with
    | true => some (.region id ops d)
    | false => none
  | .seq a b => match findR n a with
    | some c => some c
    | none => findR n b
  | .cond _ a b => match findR n a with
    | some c => some c
    | none => findR n b
  | .block _ c => findR n c
  | .scope c => findR n c
  | .loop c => findR n c
  | _ => none
noncomputable def regP (n : Nat) : Code := ((Tryd.f52.body.bind (findR n)).getD .skip)

theorem fa_R0 (b : Nat) (W : World) : (Instr.fieldAt 86 (.pointer (some ⟨b, 0, none⟩)) 0).run Tryd.prog W = .ok (.pointer (some ⟨b, 0, none⟩)) W := by kernel_rfl
theorem fa_R3 (b : Nat) (W : World) : (Instr.fieldAt 86 (.pointer (some ⟨b, 0, none⟩)) 3).run Tryd.prog W = .ok (.pointer (some ⟨b, 3, none⟩)) W := by kernel_rfl
theorem fa_A1 (b : Nat) (W : World) : (Instr.fieldAt 70 (.pointer (some ⟨b, 0, none⟩)) 1).run Tryd.prog W = .ok (.pointer (some ⟨b, 1, none⟩)) W := by kernel_rfl
theorem ld_A (p : Addr) (v : Value) (W : World) (h : W.cell? p = some v) : (Instr.loadAt 48 (.pointer (some p))).run Tryd.prog W = .ok v W := by
  go_simp
theorem ld_ents (p : Addr) (v : Value) (W : World) (h : W.cell? p = some v) : (Instr.loadAt 68 (.pointer (some p))).run Tryd.prog W = .ok v W := by
  go_simp
theorem ld_int (p : Addr) (v : Value) (W : World) (h : W.cell? p = some v) : (Instr.loadAt 2 (.pointer (some p))).run Tryd.prog W = .ok v W := by
  go_simp
theorem bld_data (x y : Int) (W : World) : (Instr.build 59 #[(0, .int .i64 x), (1, .int .i64 y)]).run Tryd.prog W = .ok (.agg #[.int .i64 x, .int .i64 y]) W := by
  kernel_rfl
theorem bld_ent (s : ByteArray) (k m u g d x y : Int) (W : World) : (Instr.build 62 #[(0, .string s), (1, .int .i64 k), (2, .int .i64 m), (3, .int .i64 u), (4, .int .i64 g), (5, .int .u32 d), (6, .agg #[.int .i64 x, .int .i64 y])]).run Tryd.prog W =
    .ok (.agg #[.string s, .int .i64 k, .int .i64 m, .int .i64 u, .int .i64 g, .int .u32 d, .int .i64 x, .int .i64 y, .pointer none]) W := by
  kernel_rfl
theorem bld_ent8 (s : ByteArray) (k m u g d x y : Int) (W : World) : (Instr.build 62 #[(0, .string s), (1, .int .i64 k), (2, .int .i64 m), (3, .int .i64 u), (4, .int .i64 g), (5, .int .u32 d), (6, .agg #[.int .i64 x, .int .i64 y]), (7, .pointer none)]).run Tryd.prog W =
    .ok (.agg #[.string s, .int .i64 k, .int .i64 m, .int .i64 u, .int .i64 g, .int .u32 d, .int .i64 x, .int .i64 y, .pointer none]) W := by
  kernel_rfl
theorem bld_one (s : ByteArray) (k m u g d x y : Int) (W : World) : (Instr.buildSlice 68 1 #[(0, .agg #[.string s, .int .i64 k, .int .i64 m, .int .i64 u, .int .i64 g, .int .u32 d, .int .i64 x, .int .i64 y, .pointer none])]).run Tryd.prog W =
    .ok (.slice (some ⟨W.heap.size, 0, none⟩) 1 1) (W.alloc (.cells #[.string s, .int .i64 k, .int .i64 m, .int .i64 u, .int .i64 g, .int .u32 d, .int .i64 x, .int .i64 y, .pointer none] 62)) := by
  go_simp
theorem st_ents (p : Addr) (u : Value) (q : Option Addr) (n c : Nat) (W : World) (h : W.cell? p = some u) (hz : W.frozen? p = false) : (Instr.storeAt 68 (.pointer (some p)) (.slice q n c)).run Tryd.prog W = .ok () (W.setCell p (.slice q n c)) := by
  go_simp
end Go.Proofs.YtgdghaijjhbegaaDoor

/- The walks of parseArchive's three regions that lay an entry behind the others. -/
namespace Go.Proofs.YtgdghaijjhbegaaDoor
open Go.RowKit
set_option maxRecDepth 100000

set_option maxHeartbeats 4000000 in
theorem region33_any (Q : Exit → Act → World → Prop) (hQ : ∀ c a (d : Nat) v w, Q (.panic c) (a.put (some d) v) w → Q (.panic c) a w) (a : Act) (w w7 : World) (R A k c c7 : Nat) (p p7 : Option Addr) (nm : ByteArray) (tm us gr md off sz : Int) (hn : a.tmps.size = 216)
    (h0 : a.eval (.tmp 0) = .pointer (some ⟨R, 0, none⟩)) (h7 : a.eval (.tmp 7) = .string nm) (h10 : a.eval (.tmp 10) = .int .i64 sz) (h11 : a.eval (.tmp 11) = .int .i64 tm) (h12 : a.eval (.tmp 12) = .int .i64 us) (h13 : a.eval (.tmp 13) = .int .i64 gr) (h14 : a.eval (.tmp 14) = .int .u32 md)
    (hw0 : w.cell? ⟨R, 0, none⟩ = some (.pointer (some ⟨A, 0, none⟩))) (hw3 : w.cell? ⟨R, 3, none⟩ = some (.int .i64 off)) (hw1 : w.cell? ⟨A, 1, none⟩ = some (.slice p k c)) (hw70 : w7.cell? ⟨R, 0, none⟩ = some (.pointer (some ⟨A, 0, none⟩))) (hw73 : w7.cell? ⟨R, 3, none⟩ = some (.int .i64 off)) (hw71 : w7.cell? ⟨A, 1, none⟩ = some (.slice p k c)) (hz : w7.frozen? ⟨A, 1, none⟩ = false)
    (happ : (Builtin.append_ #[68, 68] 68 #[.slice p k c, .slice (some ⟨w.heap.size, 0, none⟩) 1 1]).run Tryd.prog ((w.alloc (.cells #[.string nm, .int .i64 0, .int .i64 tm, .int .i64 us, .int .i64 gr, .int .u32 md, .int .i64 off, .int .i64 sz, .pointer none] 62)).drew) = .ok (.slice p7 (k + 1) c7) w7)
    (hK : ∀ x99 x100 x101 x102 x103 x104 x105 x106 x107 x108 x109 x110 x111 x112 x113 x114 x115 x116 x117 x118 x119 x120 x121 x122 x123 x124 x125 : Value, Q .normal (putL a [(125, x125), (124, x124), (123, x123), (122, x122), (121, x121), (120, x120), (119, x119), (118, x118), (117, x117), (116, x116), (115, x115), (114, x114), (113, x113), (112, x112), (111, x111), (110, x110), (109, x109), (108, x108), (107, x107), (106, x106), (105, x105), (104, x104), (103, x103), (102, x102), (101, x101), (100, x100), (99, x99)]) (w7.setCell ⟨A, 1, none⟩ (.slice p7 (k + 1) c7))) :
    (regP 33).wp Tryd.prog Q a w := by
  have al : ∀ o, ((w.drew).alloc o).cell? ⟨R, 0, none⟩ = some (.pointer (some ⟨A, 0, none⟩)) ∧ ((w.drew).alloc o).cell? ⟨R, 3, none⟩ = some (.int .i64 off) ∧ ((w.drew).alloc o).cell? ⟨A, 1, none⟩ = some (.slice p k c) := fun o => ⟨cell?_alloc_old o hw0, cell?_alloc_old o hw3, cell?_alloc_old o hw1⟩
  conv => arg 2; whnf
  refine wp_region_E (fun W => W.cell? ⟨R, 0, none⟩ = some (.pointer (some ⟨A, 0, none⟩)) ∧ W.cell? ⟨R, 3, none⟩ = some (.int .i64 off) ∧ W.cell? ⟨A, 1, none⟩ = some (.slice p k c)) 27 (by kernel_rfl) ?_
  refine wpAnyE_takes (n := 5) (by kernel_rfl) hQ _ ⟨hw0, hw3, hw1⟩ [0, 1, 2, 3, 4, 5, 6, 7, 8, 9, 10, 11, 12, 13, 14, 15, 16, 17, 18, 19, 20, 21, 22] _ _ (by kernel_rfl) ?_
  show YAll _ _ _ _ _ (putL a [])
  refine YAll.consL 99 rfl rfl rfl (fun W hW => run_move rfl (ev (j := 0) hn rfl h0)) ?_
  refine YAll.consL 100 rfl rfl rfl (fun W hW => run_nilc rfl (ev (j := 99) hn rfl rfl)) ?_
  refine YAll.consL 101 rfl rfl rfl (fun W hW => run_faddr rfl (ev (j := 100) hn rfl rfl) (fa_R0 R)) ?_
  refine YAll.consL 102 rfl rfl rfl (fun W hW => run_ld rfl (ev (j := 101) hn rfl rfl) (ld_A _ _ W hW.1)) ?_
  refine YAll.consL 103 rfl rfl rfl (fun W hW => run_move rfl (ev (j := 0) hn rfl h0)) ?_
  refine YAll.consL 104 rfl rfl rfl (fun W hW => run_nilc rfl (ev (j := 103) hn rfl rfl)) ?_
  refine YAll.consL 105 rfl rfl rfl (fun W hW => run_faddr rfl (ev (j := 104) hn rfl rfl) (fa_R0 R)) ?_
  refine YAll.consL 106 rfl rfl rfl (fun W hW => run_ld rfl (ev (j := 105) hn rfl rfl) (ld_A _ _ W hW.1)) ?_
  refine YAll.consL 107 rfl rfl rfl (fun W hW => run_nilc rfl (ev (j := 106) hn rfl rfl)) ?_
  refine YAll.consL 108 rfl rfl rfl (fun W hW => run_faddr rfl (ev (j := 107) hn rfl rfl) (fa_A1 A)) ?_
  refine YAll.consL 109 rfl rfl rfl (fun W hW => run_ld rfl (ev (j := 108) hn rfl rfl) (ld_ents _ _ W hW.2.2)) ?_
  refine YAll.consL 110 rfl rfl rfl (fun W hW => run_move rfl (ev (j := 7) hn rfl h7)) ?_
  refine YAll.consL 111 rfl rfl rfl (fun W hW => run_move rfl (ev (j := 11) hn rfl h11)) ?_
  refine YAll.consL 112 rfl rfl rfl (fun W hW => run_move rfl (ev (j := 12) hn rfl h12)) ?_
  refine YAll.consL 113 rfl rfl rfl (fun W hW => run_move rfl (ev (j := 13) hn rfl h13)) ?_
  refine YAll.consL 114 rfl rfl rfl (fun W hW => run_move rfl (ev (j := 14) hn rfl h14)) ?_
  refine YAll.consL 115 rfl rfl rfl (fun W hW => run_move rfl (ev (j := 0) hn rfl h0)) ?_
  refine YAll.consL 116 rfl rfl rfl (fun W hW => run_nilc rfl (ev (j := 115) hn rfl rfl)) ?_
  refine YAll.consL 117 rfl rfl rfl (fun W hW => run_faddr rfl (ev (j := 116) hn rfl rfl) (fa_R3 R)) ?_
  refine YAll.consL 118 rfl rfl rfl (fun W hW => run_ld rfl (ev (j := 117) hn rfl rfl) (ld_int _ _ W hW.2.1)) ?_
  refine YAll.consL 119 rfl rfl rfl (fun W hW => run_move rfl (ev (j := 10) hn rfl h10)) ?_
  refine YAll.consL 120 rfl rfl rfl (fun W hW => run_bld rfl (by simp only [List.map_toArray, List.map_cons, List.map_nil]; rw [(ev (j := 118) hn rfl rfl), (ev (j := 119) hn rfl rfl)]; rfl) (bld_data off sz W)) ?_
  refine YAll.consL 121 rfl rfl rfl (fun W hW => run_bld rfl (by simp only [List.map_toArray, List.map_cons, List.map_nil]; rw [(ev (j := 110) hn rfl rfl), (ev (j := 111) hn rfl rfl), (ev (j := 112) hn rfl rfl), (ev (j := 113) hn rfl rfl), (ev (j := 114) hn rfl rfl), (ev (j := 120) hn rfl rfl)]; rfl) (bld_ent nm 0 tm us gr md off sz W)) ?_
  refine wpAnyE_only (i := 23) rfl (by kernel_rfl) rfl (run_blds rfl (by simp only [List.map_toArray, List.map_cons, List.map_nil]; rw [(ev (j := 121) hn rfl rfl)]; rfl) (bld_one nm 0 tm us gr md off sz _)) (fun _ => al _) ?_
  refine wpAnyE_only (i := 24) rfl (by kernel_rfl) rfl (run_append_exec _ _ _ _ rfl (ev (j := 109) (l := (122, _) :: _) hn rfl rfl) (ev (j := 122) (l := (122, _) :: _) hn rfl rfl) happ) (fun _ => ⟨hw70, hw73, hw71⟩) ?_
  refine wpAnyE_only (i := 25) rfl (by kernel_rfl) rfl (run_nilc rfl (ev (j := 102) (l := (123, _) :: (122, _) :: _) hn rfl rfl)) (fun _ => ⟨hw70, hw73, hw71⟩) ?_
  refine wpAnyE_only (i := 26) rfl (by kernel_rfl) rfl (run_faddr rfl (ev (j := 124) (l := (124, _) :: (123, _) :: (122, _) :: _) hn rfl rfl) (fa_A1 A)) (fun _ => ⟨hw70, hw73, hw71⟩) ?_
  refine wpAnyE_skip (i := 27) rfl (by kernel_rfl) rfl rfl (run_st rfl (ev (j := 125) (l := (125, _) :: (124, _) :: (123, _) :: (122, _) :: _) hn rfl rfl) (ev (j := 123) (l := (125, _) :: (124, _) :: (123, _) :: (122, _) :: _) hn rfl rfl) (st_ents _ _ _ _ _ _ hw71 hz)) (fun h => absurd rfl h) ?_
  refine wpAnyE_done (by kernel_rfl) ?_ _
  exact hK _ _ _ _ _ _ _ _ _ _ _ _ _ _ _ _ _ _ _ _ _ _ _ _ _ _ _

set_option maxHeartbeats 4000000 in
theorem region36_any (Q : Exit → Act → World → Prop) (hQ : ∀ c a (d : Nat) v w, Q (.panic c) (a.put (some d) v) w → Q (.panic c) a w) (a : Act) (w w7 : World) (R A k c c7 : Nat) (p p7 : Option Addr) (nm : ByteArray) (tm us gr md off sz : Int) (hn : a.tmps.size = 216)
    (h0 : a.eval (.tmp 0) = .pointer (some ⟨R, 0, none⟩)) (h7 : a.eval (.tmp 7) = .string nm) (h10 : a.eval (.tmp 10) = .int .i64 sz) (h11 : a.eval (.tmp 11) = .int .i64 tm) (h12 : a.eval (.tmp 12) = .int .i64 us) (h13 : a.eval (.tmp 13) = .int .i64 gr) (h14 : a.eval (.tmp 14) = .int .u32 md)
    (hw0 : w.cell? ⟨R, 0, none⟩ = some (.pointer (some ⟨A, 0, none⟩))) (hw3 : w.cell? ⟨R, 3, none⟩ = some (.int .i64 off)) (hw1 : w.cell? ⟨A, 1, none⟩ = some (.slice p k c)) (hw70 : w7.cell? ⟨R, 0, none⟩ = some (.pointer (some ⟨A, 0, none⟩))) (hw73 : w7.cell? ⟨R, 3, none⟩ = some (.int .i64 off)) (hw71 : w7.cell? ⟨A, 1, none⟩ = some (.slice p k c)) (hz : w7.frozen? ⟨A, 1, none⟩ = false)
    (happ : (Builtin.append_ #[68, 68] 68 #[.slice p k c, .slice (some ⟨w.heap.size, 0, none⟩) 1 1]).run Tryd.prog ((w.alloc (.cells #[.string nm, .int .i64 3, .int .i64 tm, .int .i64 us, .int .i64 gr, .int .u32 md, .int .i64 off, .int .i64 sz, .pointer none] 62)).drew) = .ok (.slice p7 (k + 1) c7) w7)
    (hK : ∀ x131 x132 x133 x134 x135 x136 x137 x138 x139 x140 x141 x142 x143 x144 x145 x146 x147 x148 x149 x150 x151 x152 x153 x154 x155 x156 x157 : Value, Q .normal (putL a [(157, x157), (156, x156), (155, x155), (154, x154), (153, x153), (152, x152), (151, x151), (150, x150), (149, x149), (148, x148), (147, x147), (146, x146), (145, x145), (144, x144), (143, x143), (142, x142), (141, x141), (140, x140), (139, x139), (138, x138), (137, x137), (136, x136), (135, x135), (134, x134), (133, x133), (132, x132), (131, x131)]) (w7.setCell ⟨A, 1, none⟩ (.slice p7 (k + 1) c7))) :
    (regP 36).wp Tryd.prog Q a w := by
  have al : ∀ o, ((w.drew).alloc o).cell? ⟨R, 0, none⟩ = some (.pointer (some ⟨A, 0, none⟩)) ∧ ((w.drew).alloc o).cell? ⟨R, 3, none⟩ = some (.int .i64 off) ∧ ((w.drew).alloc o).cell? ⟨A, 1, none⟩ = some (.slice p k c) := fun o => ⟨cell?_alloc_old o hw0, cell?_alloc_old o hw3, cell?_alloc_old o hw1⟩
  conv => arg 2; whnf
  refine wp_region_E (fun W => W.cell? ⟨R, 0, none⟩ = some (.pointer (some ⟨A, 0, none⟩)) ∧ W.cell? ⟨R, 3, none⟩ = some (.int .i64 off) ∧ W.cell? ⟨A, 1, none⟩ = some (.slice p k c)) 27 (by kernel_rfl) ?_
  refine wpAnyE_takes (n := 5) (by kernel_rfl) hQ _ ⟨hw0, hw3, hw1⟩ [0, 1, 2, 3, 4, 5, 6, 7, 8, 9, 10, 11, 12, 13, 14, 15, 16, 17, 18, 19, 20, 21, 22] _ _ (by kernel_rfl) ?_
  show YAll _ _ _ _ _ (putL a [])
  refine YAll.consL 131 rfl rfl rfl (fun W hW => run_move rfl (ev (j := 0) hn rfl h0)) ?_
  refine YAll.consL 132 rfl rfl rfl (fun W hW => run_nilc rfl (ev (j := 131) hn rfl rfl)) ?_
  refine YAll.consL 133 rfl rfl rfl (fun W hW => run_faddr rfl (ev (j := 132) hn rfl rfl) (fa_R0 R)) ?_
  refine YAll.consL 134 rfl rfl rfl (fun W hW => run_ld rfl (ev (j := 133) hn rfl rfl) (ld_A _ _ W hW.1)) ?_
  refine YAll.consL 135 rfl rfl rfl (fun W hW => run_move rfl (ev (j := 0) hn rfl h0)) ?_
  refine YAll.consL 136 rfl rfl rfl (fun W hW => run_nilc rfl (ev (j := 135) hn rfl rfl)) ?_
  refine YAll.consL 137 rfl rfl rfl (fun W hW => run_faddr rfl (ev (j := 136) hn rfl rfl) (fa_R0 R)) ?_
  refine YAll.consL 138 rfl rfl rfl (fun W hW => run_ld rfl (ev (j := 137) hn rfl rfl) (ld_A _ _ W hW.1)) ?_
  refine YAll.consL 139 rfl rfl rfl (fun W hW => run_nilc rfl (ev (j := 138) hn rfl rfl)) ?_
  refine YAll.consL 140 rfl rfl rfl (fun W hW => run_faddr rfl (ev (j := 139) hn rfl rfl) (fa_A1 A)) ?_
  refine YAll.consL 141 rfl rfl rfl (fun W hW => run_ld rfl (ev (j := 140) hn rfl rfl) (ld_ents _ _ W hW.2.2)) ?_
  refine YAll.consL 142 rfl rfl rfl (fun W hW => run_move rfl (ev (j := 7) hn rfl h7)) ?_
  refine YAll.consL 143 rfl rfl rfl (fun W hW => run_move rfl (ev (j := 11) hn rfl h11)) ?_
  refine YAll.consL 144 rfl rfl rfl (fun W hW => run_move rfl (ev (j := 12) hn rfl h12)) ?_
  refine YAll.consL 145 rfl rfl rfl (fun W hW => run_move rfl (ev (j := 13) hn rfl h13)) ?_
  refine YAll.consL 146 rfl rfl rfl (fun W hW => run_move rfl (ev (j := 14) hn rfl h14)) ?_
  refine YAll.consL 147 rfl rfl rfl (fun W hW => run_move rfl (ev (j := 0) hn rfl h0)) ?_
  refine YAll.consL 148 rfl rfl rfl (fun W hW => run_nilc rfl (ev (j := 147) hn rfl rfl)) ?_
  refine YAll.consL 149 rfl rfl rfl (fun W hW => run_faddr rfl (ev (j := 148) hn rfl rfl) (fa_R3 R)) ?_
  refine YAll.consL 150 rfl rfl rfl (fun W hW => run_ld rfl (ev (j := 149) hn rfl rfl) (ld_int _ _ W hW.2.1)) ?_
  refine YAll.consL 151 rfl rfl rfl (fun W hW => run_move rfl (ev (j := 10) hn rfl h10)) ?_
  refine YAll.consL 152 rfl rfl rfl (fun W hW => run_bld rfl (by simp only [List.map_toArray, List.map_cons, List.map_nil]; rw [(ev (j := 150) hn rfl rfl), (ev (j := 151) hn rfl rfl)]; rfl) (bld_data off sz W)) ?_
  refine YAll.consL 153 rfl rfl rfl (fun W hW => run_bld rfl (by simp only [List.map_toArray, List.map_cons, List.map_nil]; rw [(ev (j := 142) hn rfl rfl), (ev (j := 143) hn rfl rfl), (ev (j := 144) hn rfl rfl), (ev (j := 145) hn rfl rfl), (ev (j := 146) hn rfl rfl), (ev (j := 152) hn rfl rfl)]; rfl) (bld_ent nm 3 tm us gr md off sz W)) ?_
  refine wpAnyE_only (i := 23) rfl (by kernel_rfl) rfl (run_blds rfl (by simp only [List.map_toArray, List.map_cons, List.map_nil]; rw [(ev (j := 153) hn rfl rfl)]; rfl) (bld_one nm 3 tm us gr md off sz _)) (fun _ => al _) ?_
  refine wpAnyE_only (i := 24) rfl (by kernel_rfl) rfl (run_append_exec _ _ _ _ rfl (ev (j := 141) (l := (154, _) :: _) hn rfl rfl) (ev (j := 154) (l := (154, _) :: _) hn rfl rfl) happ) (fun _ => ⟨hw70, hw73, hw71⟩) ?_
  refine wpAnyE_only (i := 25) rfl (by kernel_rfl) rfl (run_nilc rfl (ev (j := 134) (l := (155, _) :: (154, _) :: _) hn rfl rfl)) (fun _ => ⟨hw70, hw73, hw71⟩) ?_
  refine wpAnyE_only (i := 26) rfl (by kernel_rfl) rfl (run_faddr rfl (ev (j := 156) (l := (156, _) :: (155, _) :: (154, _) :: _) hn rfl rfl) (fa_A1 A)) (fun _ => ⟨hw70, hw73, hw71⟩) ?_
  refine wpAnyE_skip (i := 27) rfl (by kernel_rfl) rfl rfl (run_st rfl (ev (j := 157) (l := (157, _) :: (156, _) :: (155, _) :: (154, _) :: _) hn rfl rfl) (ev (j := 155) (l := (157, _) :: (156, _) :: (155, _) :: (154, _) :: _) hn rfl rfl) (st_ents _ _ _ _ _ _ hw71 hz)) (fun h => absurd rfl h) ?_
  refine wpAnyE_done (by kernel_rfl) ?_ _
  exact hK _ _ _ _ _ _ _ _ _ _ _ _ _ _ _ _ _ _ _ _ _ _ _ _ _ _ _

set_option maxHeartbeats 4000000 in
theorem region51_any (Q : Exit → Act → World → Prop) (hQ : ∀ c a (d : Nat) v w, Q (.panic c) (a.put (some d) v) w → Q (.panic c) a w) (a : Act) (w w7 : World) (R A k c c7 : Nat) (p p7 : Option Addr) (nm : ByteArray) (tm us gr md off sz : Int) (hn : a.tmps.size = 216)
    (h0 : a.eval (.tmp 0) = .pointer (some ⟨R, 0, none⟩)) (h7 : a.eval (.tmp 7) = .string nm) (h10 : a.eval (.tmp 10) = .int .i64 sz) (h11 : a.eval (.tmp 11) = .int .i64 tm) (h12 : a.eval (.tmp 12) = .int .i64 us) (h13 : a.eval (.tmp 13) = .int .i64 gr) (h14 : a.eval (.tmp 14) = .int .u32 md) (h16 : a.eval (.tmp 16) = .int .i64 2) (h17 : a.eval (.tmp 17) = .pointer none) (h18 : a.eval (.tmp 18) = .int .i64 off)
    (hw0 : w.cell? ⟨R, 0, none⟩ = some (.pointer (some ⟨A, 0, none⟩))) (hw1 : w.cell? ⟨A, 1, none⟩ = some (.slice p k c)) (hw70 : w7.cell? ⟨R, 0, none⟩ = some (.pointer (some ⟨A, 0, none⟩))) (hw71 : w7.cell? ⟨A, 1, none⟩ = some (.slice p k c)) (hz : w7.frozen? ⟨A, 1, none⟩ = false)
    (happ : (Builtin.append_ #[68, 68] 68 #[.slice p k c, .slice (some ⟨w.heap.size, 0, none⟩) 1 1]).run Tryd.prog ((w.alloc (.cells #[.string nm, .int .i64 2, .int .i64 tm, .int .i64 us, .int .i64 gr, .int .u32 md, .int .i64 off, .int .i64 sz, .pointer none] 62)).drew) = .ok (.slice p7 (k + 1) c7) w7)
    (hK : ∀ x185 x186 x187 x188 x189 x190 x191 x192 x193 x194 x195 x196 x197 x198 x199 x200 x201 x202 x203 x204 x205 x206 x207 x208 x209 x210 : Value, Q .normal (putL a [(210, x210), (209, x209), (208, x208), (207, x207), (206, x206), (205, x205), (204, x204), (203, x203), (202, x202), (201, x201), (200, x200), (199, x199), (198, x198), (197, x197), (196, x196), (195, x195), (194, x194), (193, x193), (192, x192), (191, x191), (190, x190), (189, x189), (188, x188), (187, x187), (186, x186), (185, x185)]) (w7.setCell ⟨A, 1, none⟩ (.slice p7 (k + 1) c7))) :
    (regP 51).wp Tryd.prog Q a w := by
  have al : ∀ o, ((w.drew).alloc o).cell? ⟨R, 0, none⟩ = some (.pointer (some ⟨A, 0, none⟩)) ∧ ((w.drew).alloc o).cell? ⟨A, 1, none⟩ = some (.slice p k c) := fun o => ⟨cell?_alloc_old o hw0, cell?_alloc_old o hw1⟩
  conv => arg 2; whnf
  refine wp_region_E (fun W => W.cell? ⟨R, 0, none⟩ = some (.pointer (some ⟨A, 0, none⟩)) ∧ W.cell? ⟨A, 1, none⟩ = some (.slice p k c)) 26 (by kernel_rfl) ?_
  refine wpAnyE_takes (n := 5) (by kernel_rfl) hQ _ ⟨hw0, hw1⟩ [0, 1, 2, 3, 4, 5, 6, 7, 8, 9, 10, 11, 12, 13, 14, 15, 16, 17, 18, 19, 20, 21] _ _ (by kernel_rfl) ?_
  show YAll _ _ _ _ _ (putL a [])
  refine YAll.consL 185 rfl rfl rfl (fun W hW => run_move rfl (ev (j := 0) hn rfl h0)) ?_
  refine YAll.consL 186 rfl rfl rfl (fun W hW => run_nilc rfl (ev (j := 185) hn rfl rfl)) ?_
  refine YAll.consL 187 rfl rfl rfl (fun W hW => run_faddr rfl (ev (j := 186) hn rfl rfl) (fa_R0 R)) ?_
  refine YAll.consL 188 rfl rfl rfl (fun W hW => run_ld rfl (ev (j := 187) hn rfl rfl) (ld_A _ _ W hW.1)) ?_
  refine YAll.consL 189 rfl rfl rfl (fun W hW => run_move rfl (ev (j := 0) hn rfl h0)) ?_
  refine YAll.consL 190 rfl rfl rfl (fun W hW => run_nilc rfl (ev (j := 189) hn rfl rfl)) ?_
  refine YAll.consL 191 rfl rfl rfl (fun W hW => run_faddr rfl (ev (j := 190) hn rfl rfl) (fa_R0 R)) ?_
  refine YAll.consL 192 rfl rfl rfl (fun W hW => run_ld rfl (ev (j := 191) hn rfl rfl) (ld_A _ _ W hW.1)) ?_
  refine YAll.consL 193 rfl rfl rfl (fun W hW => run_nilc rfl (ev (j := 192) hn rfl rfl)) ?_
  refine YAll.consL 194 rfl rfl rfl (fun W hW => run_faddr rfl (ev (j := 193) hn rfl rfl) (fa_A1 A)) ?_
  refine YAll.consL 195 rfl rfl rfl (fun W hW => run_ld rfl (ev (j := 194) hn rfl rfl) (ld_ents _ _ W hW.2)) ?_
  refine YAll.consL 196 rfl rfl rfl (fun W hW => run_move rfl (ev (j := 7) hn rfl h7)) ?_
  refine YAll.consL 197 rfl rfl rfl (fun W hW => run_move rfl (ev (j := 16) hn rfl h16)) ?_
  refine YAll.consL 198 rfl rfl rfl (fun W hW => run_move rfl (ev (j := 11) hn rfl h11)) ?_
  refine YAll.consL 199 rfl rfl rfl (fun W hW => run_move rfl (ev (j := 12) hn rfl h12)) ?_
  refine YAll.consL 200 rfl rfl rfl (fun W hW => run_move rfl (ev (j := 13) hn rfl h13)) ?_
  refine YAll.consL 201 rfl rfl rfl (fun W hW => run_move rfl (ev (j := 14) hn rfl h14)) ?_
  refine YAll.consL 202 rfl rfl rfl (fun W hW => run_move rfl (ev (j := 18) hn rfl h18)) ?_
  refine YAll.consL 203 rfl rfl rfl (fun W hW => run_move rfl (ev (j := 10) hn rfl h10)) ?_
  refine YAll.consL 204 rfl rfl rfl (fun W hW => run_bld rfl (by simp only [List.map_toArray, List.map_cons, List.map_nil]; rw [(ev (j := 202) hn rfl rfl), (ev (j := 203) hn rfl rfl)]; rfl) (bld_data off sz W)) ?_
  refine YAll.consL 205 rfl rfl rfl (fun W hW => run_move rfl (ev (j := 17) hn rfl h17)) ?_
  refine YAll.consL 206 rfl rfl rfl (fun W hW => run_bld rfl (by simp only [List.map_toArray, List.map_cons, List.map_nil]; rw [(ev (j := 196) hn rfl rfl), (ev (j := 197) hn rfl rfl), (ev (j := 198) hn rfl rfl), (ev (j := 199) hn rfl rfl), (ev (j := 200) hn rfl rfl), (ev (j := 201) hn rfl rfl), (ev (j := 204) hn rfl rfl), (ev (j := 205) hn rfl rfl)]; rfl) (bld_ent8 nm 2 tm us gr md off sz W)) ?_
  refine wpAnyE_only (i := 22) rfl (by kernel_rfl) rfl (run_blds rfl (by simp only [List.map_toArray, List.map_cons, List.map_nil]; rw [(ev (j := 206) hn rfl rfl)]; rfl) (bld_one nm 2 tm us gr md off sz _)) (fun _ => al _) ?_
  refine wpAnyE_only (i := 23) rfl (by kernel_rfl) rfl (run_append_exec _ _ _ _ rfl (ev (j := 195) (l := (207, _) :: _) hn rfl rfl) (ev (j := 207) (l := (207, _) :: _) hn rfl rfl) happ) (fun _ => ⟨hw70, hw71⟩) ?_
  refine wpAnyE_only (i := 24) rfl (by kernel_rfl) rfl (run_nilc rfl (ev (j := 188) (l := (208, _) :: (207, _) :: _) hn rfl rfl)) (fun _ => ⟨hw70, hw71⟩) ?_
  refine wpAnyE_only (i := 25) rfl (by kernel_rfl) rfl (run_faddr rfl (ev (j := 209) (l := (209, _) :: (208, _) :: (207, _) :: _) hn rfl rfl) (fa_A1 A)) (fun _ => ⟨hw70, hw71⟩) ?_
  refine wpAnyE_skip (i := 26) rfl (by kernel_rfl) rfl rfl (run_st rfl (ev (j := 210) (l := (210, _) :: (209, _) :: (208, _) :: (207, _) :: _) hn rfl rfl) (ev (j := 208) (l := (210, _) :: (209, _) :: (208, _) :: (207, _) :: _) hn rfl rfl) (st_ents _ _ _ _ _ _ hw71 hz)) (fun h => absurd rfl h) ?_
  refine wpAnyE_done (by kernel_rfl) ?_ _
  exact hK _ _ _ _ _ _ _ _ _ _ _ _ _ _ _ _ _ _ _ _ _ _ _ _ _ _

end Go.Proofs.YtgdghaijjhbegaaDoor
